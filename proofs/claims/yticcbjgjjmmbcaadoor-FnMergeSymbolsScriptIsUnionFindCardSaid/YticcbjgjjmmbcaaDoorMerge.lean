/-
  Plain law of merging two symbols in a table of links: every chain keeps its end, or turns it into the other's end.
  Conditions: none.
-/
import Derived.Test.YticcbjgjjmmbcaaDoorChain
namespace Go.Proofs.YticcbjgjjmmbcaaDoor.chain

theorem inv_not {S : Nat} {σ : Tab} (hS : S ≤ 1048576) : ¬ Valid S σ inv := fun h => by
  have h1 : inv.1 < S := h.1
  simp only [inv] at h1
  omega
theorem put_valid {S : Nat} {σ : Tab} {p r q : Ref} : Valid S (put σ p r) q ↔ Valid S σ q := by simp [Valid, put_length]
theorem put_at {S : Nat} {σ : Tab} {p : Ref} (r q : Ref) (hp : Valid S σ p) : symAt (put σ p r) q = if q = p then setL (symAt σ p) r else symAt σ q := by
  obtain ⟨a, b⟩ := p
  obtain ⟨c, d⟩ := q
  have h2 : b < (σ a).length := hp.2
  unfold put
  by_cases hs : c = a
  · subst hs
    by_cases hj : d = b
    · subst hj
      simp [symAt, h2]
    · have hne : ¬ ((c, d) : Ref) = (c, b) := fun e => hj (by injection e)
      rw [if_neg hne]
      have hj2 : ¬ b = d := fun e => hj e.symm
      simp only [symAt, if_true, List.getD_eq_getElem?_getD]
      rw [List.getElem?_set_ne hj2]
  · have hne : ¬ ((c, d) : Ref) = (a, b) := fun e => hs (by injection e)
    rw [if_neg hne]
    simp only [symAt, if_neg hs]
theorem put_lnk {S : Nat} {σ : Tab} {p : Ref} (r q : Ref) (hp : Valid S σ p) : lnk (put σ p r) q = if q = p then r else lnk σ q := by
  unfold lnk
  rw [put_at r q hp]
  split <;> rfl
theorem put_use {S : Nat} {σ : Tab} {p : Ref} (r q : Ref) (hp : Valid S σ p) : (symAt (put σ p r) q).use = (symAt σ q).use := by
  rw [put_at r q hp]
  split
  · rename_i h; subst h; rfl
  · rfl
theorem put_flags {S : Nat} {σ : Tab} {p : Ref} (r q : Ref) (hp : Valid S σ p) : (symAt (put σ p r) q).flags = (symAt σ q).flags := by
  rw [put_at r q hp]
  split
  · rename_i h; subst h; rfl
  · rfl
def setU (x : Sym) (u : Nat) : Sym := { x with use := u }
/-- one symbol's use count set -/
def putU (σ : Tab) (p : Ref) (u : Nat) : Tab := fun s => if s = p.1 then (σ s).set p.2 (setU (symAt σ p) u) else σ s
theorem putU_length (σ : Tab) (p : Ref) (u : Nat) (s : Nat) : (putU σ p u s).length = (σ s).length := by unfold putU; split <;> simp
theorem putU_valid {S : Nat} {σ : Tab} {p q : Ref} {u : Nat} : Valid S (putU σ p u) q ↔ Valid S σ q := by simp [Valid, putU_length]
theorem putU_at {S : Nat} {σ : Tab} {p : Ref} (u : Nat) (q : Ref) (hp : Valid S σ p) : symAt (putU σ p u) q = if q = p then setU (symAt σ p) u else symAt σ q := by
  obtain ⟨a, b⟩ := p
  obtain ⟨c, d⟩ := q
  have h2 : b < (σ a).length := hp.2
  unfold putU
  by_cases hs : c = a
  · subst hs
    by_cases hj : d = b
    · subst hj
      simp [symAt, h2]
    · have hne : ¬ ((c, d) : Ref) = (c, b) := fun e => hj (by injection e)
      rw [if_neg hne]
      have hj2 : ¬ b = d := fun e => hj e.symm
      simp only [symAt, if_true, List.getD_eq_getElem?_getD]
      rw [List.getElem?_set_ne hj2]
  · have hne : ¬ ((c, d) : Ref) = (a, b) := fun e => hs (by injection e)
    rw [if_neg hne]
    simp only [symAt, if_neg hs]
theorem putU_lnk {S : Nat} {σ : Tab} {p : Ref} (u : Nat) (q : Ref) (hp : Valid S σ p) : lnk (putU σ p u) q = lnk σ q := by
  unfold lnk
  rw [putU_at u q hp]
  split
  · rename_i h; subst h; rfl
  · rfl
theorem putU_use {S : Nat} {σ : Tab} {p : Ref} (u : Nat) (q : Ref) (hp : Valid S σ p) : (symAt (putU σ p u) q).use = if q = p then u else (symAt σ q).use := by
  rw [putU_at u q hp]
  split <;> rfl
theorem putU_flags {S : Nat} {σ : Tab} {p : Ref} (u : Nat) (q : Ref) (hp : Valid S σ p) : (symAt (putU σ p u) q).flags = (symAt σ q).flags := by
  rw [putU_at u q hp]
  split
  · rename_i h; subst h; rfl
  · rfl

/-- every symbol's chain, with its length and its end -/
def Sys (S : Nat) (σ : Tab) (d : Ref → Nat) (root : Ref → Ref) : Prop := ∀ q, Valid S σ q → Chain S σ (d q) q (root q)
theorem Sys.of {S : Nat} {σ : Tab} (h : ∀ q, Valid S σ q → ∃ e r, Chain S σ e q r) : ∃ d root, Sys S σ d root := by
  classical
  refine ⟨fun q => if hq : Valid S σ q then (h q hq).choose else 0, fun q => if hq : Valid S σ q then (h q hq).choose_spec.choose else q, fun q hq => ?_⟩
  simp only [dif_pos hq]
  exact (h q hq).choose_spec.choose_spec
section
variable {S : Nat} {σ : Tab} {d : Ref → Nat} {root : Ref → Ref}
theorem Sys.step (h : Sys S σ d root) {q : Ref} (hq : Valid S σ q) (hl : lnk σ q ≠ inv) : Valid S σ (lnk σ q) ∧ d q = d (lnk σ q) + 1 ∧ root (lnk σ q) = root q := by
  have hc := h q hq
  cases hd : d q with
  | zero => rw [hd] at hc; exact absurd hc.2.1 hl
  | succ k =>
    rw [hd] at hc
    have hv := hc.2.2.valid
    obtain ⟨e1, e2⟩ := (h _ hv).uniq hc.2.2
    exact ⟨hv, by rw [e1], e2⟩
theorem Sys.root0 (h : Sys S σ d root) {q : Ref} (hq : Valid S σ q) (hl : lnk σ q = inv) : d q = 0 ∧ root q = q := by
  have hc := h q hq
  cases hd : d q with
  | zero => rw [hd] at hc; exact ⟨rfl, hc.2.2.symm⟩
  | succ k => rw [hd] at hc; exact absurd hl hc.2.1
theorem Sys.ends (h : Sys S σ d root) {q : Ref} (hq : Valid S σ q) : Valid S σ (root q) ∧ lnk σ (root q) = inv ∧ d (root q) = 0 ∧ root (root q) = root q := by
  have hr := (h q hq).root
  obtain ⟨e1, e2⟩ := (h _ hr.1).uniq hr
  exact ⟨hr.1, hr.2.1, e1, e2⟩
end
/-- the end of a chain behind the merge of the ends ro and rn -/
def cls (root : Ref → Ref) (ro rn q : Ref) : Ref := if root q = ro then rn else root q
def rk (d : Ref → Nat) (root : Ref → Ref) (ro rn q : Ref) : Nat := d q + (if root q = ro ∧ ro ≠ rn then 1 else 0)
/-- τ: the table σ behind a merge of two symbols whose ends are ro and rn -/
structure Mg (S : Nat) (σ : Tab) (d : Ref → Nat) (root : Ref → Ref) (ro rn : Ref) (τ : Tab) : Prop where
  len : ∀ s, (τ s).length = (σ s).length
  link : ∀ q, Valid S σ q → lnk τ q = inv ∨ (Valid S σ (lnk τ q) ∧ rk d root ro rn (lnk τ q) < rk d root ro rn q ∧ cls root ro rn (lnk τ q) = cls root ro rn q)
  noNew : ∀ q, Valid S σ q → lnk τ q = inv → lnk σ q = inv
  roots : ∀ q, Valid S σ q → lnk σ q = inv → (q ≠ ro ∨ ro = rn) → lnk τ q = inv
  done : ro ≠ rn → lnk τ ro ≠ inv
  use : ∀ q, Valid S σ q → (symAt τ q).use = if q = rn ∧ ro ≠ rn then ((symAt σ rn).use + (symAt σ ro).use) % 4294967296 else (symAt σ q).use
  flags : ∀ q, Valid S σ q → (symAt τ q).flags = 0
section
variable {S : Nat} {σ τ : Tab} {d : Ref → Nat} {root : Ref → Ref} {ro rn : Ref}
theorem Mg.valid (h : Mg S σ d root ro rn τ) {q : Ref} : Valid S τ q ↔ Valid S σ q := by simp [Valid, h.len]
theorem Mg.put (h : Mg S σ d root ro rn τ) (hS : S ≤ 1048576) {o r : Ref} (ho : Valid S σ o) (hl : lnk σ o ≠ inv) (hr : Valid S σ r) (hk : rk d root ro rn r < rk d root ro rn o) (hc : cls root ro rn r = cls root ro rn o) :
    Mg S σ d root ro rn (put τ o r) := by
  have hot : Valid S τ o := h.valid.2 ho
  have hri : r ≠ inv := fun e => inv_not hS (e ▸ hr)
  refine ⟨fun s => (put_length ..).trans (h.len s), fun q hq => ?_, fun q hq hi => ?_, fun q hq hi hn => ?_, fun hne => ?_, fun q hq => ?_, fun q hq => ?_⟩
  · rw [put_lnk r q hot]
    by_cases e : q = o
    · rw [if_pos e]; subst e; exact .inr ⟨hr, hk, hc⟩
    · rw [if_neg e]; exact h.link q hq
  · rw [put_lnk r q hot] at hi
    by_cases e : q = o
    · rw [if_pos e] at hi; exact absurd hi hri
    · rw [if_neg e] at hi; exact h.noNew q hq hi
  · rw [put_lnk r q hot]
    by_cases e : q = o
    · subst e; exact absurd hi hl
    · rw [if_neg e]; exact h.roots q hq hi hn
  · rw [put_lnk r _ hot]
    by_cases e : ro = o
    · rw [if_pos e]; exact hri
    · rw [if_neg e]; exact h.done hne
  · rw [put_use r q hot]; exact h.use q hq
  · rw [put_flags r q hot]; exact h.flags q hq
theorem Mg.same (h : Sys S σ d root) (hf : ∀ q, Valid S σ q → (symAt σ q).flags = 0) (e : ro = rn) : Mg S σ d root ro rn σ := by
  subst e
  have hc : ∀ q, cls root ro ro q = root q := fun q => by unfold cls; split <;> simp_all
  have hk : ∀ q, rk d root ro ro q = d q := fun q => by unfold rk; simp
  refine ⟨fun _ => rfl, fun q hq => ?_, fun _ _ h => h, fun _ _ h _ => h, fun hne => absurd rfl hne, fun q hq => ?_, hf⟩
  · by_cases hl : lnk σ q = inv
    · exact .inl hl
    · obtain ⟨h1, h2, h3⟩ := h.step hq hl
      rw [hk, hk, hc, hc]
      exact .inr ⟨h1, by omega, h3⟩
  · rw [if_neg (fun hh => hh.2 rfl)]
theorem Mg.new (h : Sys S σ d root) (hS : S ≤ 1048576) (hf : ∀ q, Valid S σ q → (symAt σ q).flags = 0) (hne : ro ≠ rn) (ho : Valid S σ ro) (hn : Valid S σ rn) (h1 : lnk σ ro = inv) (h2 : lnk σ rn = inv) :
    Mg S σ d root ro rn (putU (chain.put σ ro rn) rn (((symAt σ rn).use + (symAt σ ro).use) % 4294967296)) := by
  have hn2 : Valid S (chain.put σ ro rn) rn := put_valid.2 hn
  have hri : rn ≠ inv := fun e => inv_not hS (e ▸ hn)
  obtain ⟨d1, r1⟩ := h.root0 ho h1
  obtain ⟨d2, r2⟩ := h.root0 hn h2
  refine ⟨fun s => (putU_length ..).trans (put_length ..), fun q hq => ?_, fun q hq hi => ?_, fun q hq hi hx => ?_, fun _ => ?_, fun q hq => ?_, fun q hq => ?_⟩
  · rw [putU_lnk _ q hn2, put_lnk rn q ho]
    by_cases e : q = ro
    · rw [if_pos e]
      subst e
      refine .inr ⟨hn, ?_, ?_⟩
      · unfold rk
        rw [d1, d2, r1, r2, if_neg (fun hh => hne hh.1.symm), if_pos ⟨rfl, hne⟩]
        omega
      · unfold cls
        rw [r1, r2, if_neg (fun hh => hne hh.symm), if_pos rfl]
    · rw [if_neg e]
      by_cases hl : lnk σ q = inv
      · exact .inl hl
      · obtain ⟨g1, g2, g3⟩ := h.step hq hl
        refine .inr ⟨g1, ?_, ?_⟩
        · unfold rk; rw [g3]; omega
        · unfold cls; rw [g3]
  · rw [putU_lnk _ q hn2, put_lnk rn q ho] at hi
    by_cases e : q = ro
    · rw [if_pos e] at hi; exact absurd hi hri
    · rw [if_neg e] at hi; exact hi
  · rw [putU_lnk _ q hn2, put_lnk rn q ho]
    by_cases e : q = ro
    · rcases hx with hx | hx
      · exact absurd e hx
      · exact absurd hx hne
    · rw [if_neg e]; exact hi
  · rw [putU_lnk _ _ hn2, put_lnk rn _ ho, if_pos rfl]; exact hri
  · rw [putU_use _ q hn2, put_use rn q ho]
    by_cases e : q = rn
    · rw [if_pos e, if_pos ⟨e, hne⟩]
    · rw [if_neg e, if_neg (fun hh => e hh.1)]
  · rw [putU_flags _ q hn2, put_flags rn q ho]; exact hf q hq
/-- every symbol's chain behind the merge -/
theorem Mg.chain (h : Mg S σ d root ro rn τ) (hs : Sys S σ d root) : ∀ (m : Nat) (q : Ref), rk d root ro rn q ≤ m → Valid S σ q → ∃ e, Chain S τ e q (cls root ro rn q) := by
  intro m
  induction m with
  | zero =>
    intro q hm hq
    rcases h.link q hq with hl | ⟨h1, h2, h3⟩
    · obtain ⟨e1, e2⟩ := hs.root0 hq (h.noNew q hq hl)
      refine ⟨0, h.valid.2 hq, hl, ?_⟩
      unfold cls
      rw [e2]
      split
      · rename_i hh
        by_cases hne : ro = rn
        · rw [hh, hne]
        · exact absurd (hh ▸ hl) (h.done hne)
      · rfl
    · omega
  | succ m ih =>
    intro q hm hq
    rcases h.link q hq with hl | ⟨h1, h2, h3⟩
    · obtain ⟨e1, e2⟩ := hs.root0 hq (h.noNew q hq hl)
      refine ⟨0, h.valid.2 hq, hl, ?_⟩
      unfold cls
      rw [e2]
      split
      · rename_i hh
        by_cases hne : ro = rn
        · rw [hh, hne]
        · exact absurd (hh ▸ hl) (h.done hne)
      · rfl
    · by_cases hl : lnk τ q = inv
      · obtain ⟨e1, e2⟩ := hs.root0 hq (h.noNew q hq hl)
        refine ⟨0, h.valid.2 hq, hl, ?_⟩
        unfold cls
        rw [e2]
        split
        · rename_i hh
          by_cases hne : ro = rn
          · rw [hh, hne]
          · exact absurd (hh ▸ hl) (h.done hne)
        · rfl
      · obtain ⟨e, hc⟩ := ih (lnk τ q) (by omega) h1
        exact ⟨e + 1, h.valid.2 hq, hl, by rw [← h3]; exact hc⟩
end
end Go.Proofs.YticcbjgjjmmbcaaDoor.chain
