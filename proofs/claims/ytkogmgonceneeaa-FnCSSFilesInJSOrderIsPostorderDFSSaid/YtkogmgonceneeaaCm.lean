/-
  How much the stack machine of jsModel still has to do.
  Conditions: none.
-/
import Derived.Test.YtkogmgonceneeaaCa
namespace Go.Proofs.Ytkogmgonceneeaa.css
open kit dfs

def plen (F : Ct) (v p : Nat) : Nat := (imps F v p).length
/-- what a begun node still asks from part p on -/
def remP (F : Ct) (v p : Nat) : Nat := 1 + (((List.range (np F v)).drop p).map fun q => 1 + plen F v q).sum
def rem (F : Ct) (v p k : Nat) : Nat := remP F v p - k
theorem remP_end {F : Ct} {v p : Nat} (h : np F v ≤ p) : remP F v p = 1 := by
  unfold remP
  rw [List.drop_eq_nil_of_le (by simpa using h)]
  rfl
theorem remP_step {F : Ct} {v p : Nat} (h : p < np F v) : remP F v p = 1 + plen F v p + remP F v (p + 1) := by
  unfold remP
  rw [List.drop_eq_getElem_cons (by simpa using h), List.map_cons, List.sum_cons]
  simp
  omega
theorem remP_pos (F : Ct) (v p : Nat) : 1 ≤ remP F v p := by unfold remP; omega
theorem rem_imp {F : Ct} {v p k : Nat} (h : p < np F v) (hk : k < plen F v p) : rem F v p (k + 1) + 1 = rem F v p k := by
  have := remP_step h
  unfold rem
  omega
theorem rem_part {F : Ct} {v p k : Nat} (h : p < np F v) (hk : k = plen F v p) : rem F v (p + 1) 0 + 1 = rem F v p k := by
  have := remP_step h
  unfold rem
  omega
/-- what the nodes not yet visited ask -/
def wsum (F : Ct) (d : Nat → Bool) : Nat → Nat
  | 0 => 0
  | n + 1 => wsum F d n + if d n = true then 0 else remP F n 0
theorem wsum_congr {F : Ct} {d d2 : Nat → Bool} {n : Nat} (h : ∀ v, v < n → d v = d2 v) : wsum F d n = wsum F d2 n := by
  induction n with
  | zero => rfl
  | succ n ih =>
    simp only [wsum]
    rw [ih (fun v hv => h v (by omega)), h n (by omega)]
theorem wsum_mark {F : Ct} {d : Nat → Bool} {n t : Nat} (ht : t < n) (hd : d t = false) : wsum F (upd d t true) n + rem F t 0 0 = wsum F d n := by
  induction n with
  | zero => omega
  | succ n ih =>
    simp only [wsum]
    by_cases e : t = n
    · subst e
      rw [wsum_congr (d := upd d t true) (d2 := d) (fun v hv => upd_ne _ _ (by omega)), upd_same, hd]
      simp [rem]
    · have := ih (by omega)
      rw [upd_ne _ _ (by omega)]
      omega
/-- what the stack asks -/
def ssum (F : Ct) (st : List (Nat × Nat × Nat)) : Nat := (st.map fun x => rem F x.1 x.2.1 x.2.2).sum
theorem ssum_append (F : Ct) (a b : List (Nat × Nat × Nat)) : ssum F (a ++ b) = ssum F a + ssum F b := by simp [ssum]
theorem ssum_one (F : Ct) (v p k : Nat) : ssum F [(v, p, k)] = rem F v p k := by simp [ssum]
/-- the stack as the plain law sees it: the top one first -/
def stack (F : Ct) (st : List (Nat × Nat × Nat)) : List (Nat × List Nat) := st.reverse.map fun x => (x.1, restP F x.1 x.2.1 x.2.2)
theorem stack_push (F : Ct) (st : List (Nat × Nat × Nat)) (v p k : Nat) : stack F (st ++ [(v, p, k)]) = (v, restP F v p k) :: stack F st := by simp [stack]
/-- the machine's state: the stack, what has been visited and put out -/
structure Mach (n : Nat) (F : Ct) (e : Nat) (st : List (Nat × Nat × Nat)) (s : St) : Prop where
  leads : Leads (T F) (C F) e ⟨fun _ => false, []⟩ (stack F st) s
  inn : ∀ x ∈ st, x.1 < n ∧ x.2.1 ≤ np F x.1 ∧ x.2.2 ≤ plen F x.1 x.2.1
theorem Mach.start {n : Nat} {F : Ct} {e : Nat} (he : e < n) : Mach n F e [(e, 0, 0)] (St.mark ⟨fun _ => false, []⟩ e) := by
  refine ⟨?_, fun x hx => ?_⟩
  · have := Leads.start (T := T F) (C := C F) (e := e) (s0 := ⟨fun _ => false, []⟩) rfl
    have e2 : stack F [(e, 0, 0)] = [(e, T F e)] := by rw [← restP_start]; rfl
    rw [e2]; exact this
  · rw [List.mem_singleton.1 hx]
    exact ⟨he, Nat.zero_le _, Nat.zero_le _⟩
theorem Mach.pop {n : Nat} {F : Ct} {e v p k : Nat} {st : List (Nat × Nat × Nat)} {s : St} (h : Mach n F e (st ++ [(v, p, k)]) s) (hp : np F v ≤ p) : Mach n F e st (s.emit (C F) v) := by
  have hk := (h.inn (v, p, k) (by simp)).2.2
  have hk0 : k = 0 := by
    have : plen F v p = 0 := by unfold plen; rw [imps_out hp]; rfl
    simp only at hk
    omega
  subst hk0
  refine ⟨?_, fun x hx => h.inn x (by simp [hx])⟩
  have := h.leads
  rw [stack_push, restP_end hp] at this
  exact this.pop
theorem Mach.part {n : Nat} {F : Ct} {e v p k : Nat} {st : List (Nat × Nat × Nat)} {s : St} (h : Mach n F e (st ++ [(v, p, k)]) s) (hp : p < np F v) (hk : plen F v p ≤ k) : Mach n F e (st ++ [(v, p + 1, 0)]) s := by
  refine ⟨?_, fun x hx => ?_⟩
  · have := h.leads
    rw [stack_push, restP_part hk] at this
    rw [stack_push]
    exact this
  · rcases List.mem_append.1 hx with hx | hx
    · exact h.inn x (by simp [hx])
    · rw [List.mem_singleton.1 hx]
      exact ⟨(h.inn (v, p, k) (by simp)).1, hp, Nat.zero_le _⟩
theorem Mach.skip {n : Nat} {F : Ct} {e v p k : Nat} {st : List (Nat × Nat × Nat)} {s : St} (h : Mach n F e (st ++ [(v, p, k)]) s) (hp : p < np F v) (hk : k < (imps F v p).length) (hs : (imps F v p)[k].1 = true → s.d (imps F v p)[k].2 = true) : Mach n F e (st ++ [(v, p, k + 1)]) s := by
  refine ⟨?_, fun x hx => ?_⟩
  · have := h.leads
    rw [stack_push, restP_imp hk] at this
    rw [stack_push]
    cases c : (imps F v p)[k].1
    · rw [c] at this
      exact this
    · rw [c] at this
      exact Leads.skip (by simpa using this) (hs c)
  · rcases List.mem_append.1 hx with hx | hx
    · exact h.inn x (by simp [hx])
    · rw [List.mem_singleton.1 hx]
      exact ⟨(h.inn (v, p, k) (by simp)).1, Nat.le_of_lt hp, hk⟩
theorem Mach.push {n : Nat} {F : Ct} {e v p k : Nat} {st : List (Nat × Nat × Nat)} {s : St} (h : Mach n F e (st ++ [(v, p, k)]) s) (hp : p < np F v) (hk : k < (imps F v p).length) (c : (imps F v p)[k].1 = true) (hn : (imps F v p)[k].2 < n) (hs : s.d (imps F v p)[k].2 = false) :
    Mach n F e (st ++ [(v, p, k + 1)] ++ [((imps F v p)[k].2, 0, 0)]) (s.mark (imps F v p)[k].2) := by
  refine ⟨?_, fun x hx => ?_⟩
  · have := h.leads
    rw [stack_push, restP_imp hk, c] at this
    rw [stack_push, stack_push, restP_start]
    exact Leads.push (by simpa using this) hs
  · rcases List.mem_append.1 hx with hx | hx
    · rcases List.mem_append.1 hx with hx | hx
      · exact h.inn x (by simp [hx])
      · rw [List.mem_singleton.1 hx]
        exact ⟨(h.inn (v, p, k) (by simp)).1, Nat.le_of_lt hp, hk⟩
    · rw [List.mem_singleton.1 hx]
      exact ⟨hn, Nat.zero_le _, Nat.zero_le _⟩
theorem Mach.fin {n : Nat} {F : Ct} {e : Nat} {s : St} (h : Mach n F e [] s) : Run (T F) (C F) [e] ⟨fun _ => false, []⟩ s := h.leads.fin
end Go.Proofs.Ytkogmgonceneeaa.css
