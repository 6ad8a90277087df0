/-
  The law's entries in plain lists: their order, the list without doubles, and that a list in order with the same members is the same.
  Conditions: none; no program in sight.
-/
import Derived.Test.YtbnkhpbgibgahaaMs
namespace Go.Proofs.Ytbnkhpbgibgahaa.ms

structure En where
  s : Int
  src : Int
  inn : Int
deriving DecidableEq
instance : Inhabited En := ⟨⟨0, 0, 0⟩⟩
/-- the law's total order -/
def elt (a b : En) : Bool := if a.s ≠ b.s then decide (a.s < b.s) else if a.inn ≠ b.inn then decide (a.inn < b.inn) else decide (a.src < b.src)
def ele (a b : En) : Bool := !elt b a
/-- the program's order -/
def klt (a b : En) : Bool := decide (a.s < b.s) || (decide (a.s = b.s) && decide (a.inn < b.inn))
theorem elt_iff (a b : En) : elt a b = true ↔ a.s < b.s ∨ (a.s = b.s ∧ (a.inn < b.inn ∨ (a.inn = b.inn ∧ a.src < b.src))) := by
  unfold elt
  by_cases h1 : a.s = b.s
  · by_cases h2 : a.inn = b.inn
    · simp [h1, h2]
    · simp [h1, h2]
  · simp [h1]
theorem klt_iff (a b : En) : klt a b = true ↔ a.s < b.s ∨ (a.s = b.s ∧ a.inn < b.inn) := by simp [klt]
theorem ele_iff (a b : En) : ele a b = true ↔ ¬ (b.s < a.s ∨ (b.s = a.s ∧ (b.inn < a.inn ∨ (b.inn = a.inn ∧ b.src < a.src)))) := by
  unfold ele
  rw [← elt_iff]
  simp
theorem ele_trans (a b c : En) (h : ele a b = true) (g : ele b c = true) : ele a c = true := by rw [ele_iff] at *; omega
theorem ele_total (a b : En) : (ele a b || ele b a) = true := by
  rw [Bool.or_eq_true, ele_iff, ele_iff]
  omega
theorem ele_antisymm (a b : En) (h : ele a b = true) (g : ele b a = true) : a = b := by
  rw [ele_iff] at *
  obtain ⟨a1, a2, a3⟩ := a
  obtain ⟨b1, b2, b3⟩ := b
  simp only [En.mk.injEq] at *
  omega

/-- one step of dropping doubles: an entry that has the last one's ref is passed over -/
def dstep (out : List En) (e : En) : List En := match out.getLast? with
  | some l => if l.src = e.src ∧ l.inn = e.inn then out else out ++ [e]
  | none => out ++ [e]
def dd (L : List En) : List En := L.foldl dstep []
theorem dd_snoc (L : List En) (e : En) : dd (L ++ [e]) = dstep (dd L) e := by simp [dd, List.foldl_append]
theorem take_succ {L : List En} {k : Nat} (h : k < L.length) : dd (L.take (k + 1)) = dstep (dd (L.take k)) L[k] := by rw [← dd_snoc, List.take_succ_eq_append_getElem h]

/-- what is known of the list without doubles of a list in order -/
structure DD (L M : List En) : Prop where
  mem : ∀ e, e ∈ M ↔ e ∈ L
  ord : M.Pairwise (fun a b => elt a b = true)
  last : ∀ l, M.getLast? = some l → ∀ e ∈ L, ele e l = true
theorem dd_spec (f : Int → Int) : ∀ (L R : List En), (∀ e ∈ L ++ R, e.s = f e.src) → (L ++ R).Pairwise (fun a b => ele a b = true) → DD L (dd L) := by
  intro L
  induction hn : L.length generalizing L with
  | zero =>
    intro R _ _
    rw [List.length_eq_zero_iff.1 hn]
    exact ⟨fun e => by simp [dd], List.Pairwise.nil, fun l h => by simp [dd] at h⟩
  | succ n ih =>
    intro R hf hp
    obtain ⟨L2, e, rfl⟩ : ∃ L2 e, L = L2 ++ [e] := ⟨L.dropLast, L.getLast (by intro h; simp [h] at hn), (List.dropLast_concat_getLast (by intro h; simp [h] at hn)).symm⟩
    have h2 := ih L2 (by simpa using hn) ([e] ++ R) (by simpa using hf) (by simpa using hp)
    have he : e.s = f e.src := hf e (by simp)
    have hle : ∀ x ∈ L2, ele x e = true := fun x hx => by
      have hp2 : (L2 ++ ([e] ++ R)).Pairwise (fun a b => ele a b = true) := by simpa using hp
      exact (List.pairwise_append.1 hp2).2.2 x hx e (by simp)
    rw [dd_snoc]
    unfold dstep
    rcases hl : (dd L2).getLast? with _ | l
    · have hnil : dd L2 = [] := List.getLast?_eq_none_iff.1 hl
      have hL2 : L2 = [] := by
        rcases L2 with _ | ⟨x, L3⟩
        · rfl
        · have := (h2.mem x).2 (by simp)
          rw [hnil] at this
          cases this
      subst hL2
      simp only [hnil, List.nil_append]
      exact ⟨fun x => Iff.rfl, by simp, fun l h x hx => by
        simp at h hx
        subst h hx
        rw [ele_iff]; omega⟩
    · have hlm : l ∈ dd L2 := List.mem_of_getLast? hl
      have hlL : l ∈ L2 := (h2.mem l).1 hlm
      have hls : l.s = f l.src := hf l (by simp [hlL])
      simp only
      by_cases heq : l.src = e.src ∧ l.inn = e.inn
      · have hel : l = e := by
          obtain ⟨l1, l2, l3⟩ := l
          obtain ⟨e1, e2, e3⟩ := e
          simp only [En.mk.injEq] at *
          obtain ⟨q1, q2⟩ := heq
          subst q1 q2
          exact ⟨by rw [hls, he], rfl, rfl⟩
        rw [if_pos heq]
        refine ⟨fun x => ?_, h2.ord, fun l2 hl2 x hx => ?_⟩
        · rw [h2.mem x, List.mem_append]
          constructor
          · exact .inl
          · rintro (h | h)
            · exact h
            · rw [List.mem_singleton.1 h, ← hel]; exact hlL
        · rcases List.mem_append.1 hx with h | h
          · exact h2.last l2 hl2 x h
          · rw [List.mem_singleton.1 h, ← hel]
            exact h2.last l2 hl2 l hlL
      · rw [if_neg heq]
        refine ⟨fun x => by rw [List.mem_append, List.mem_append, h2.mem x], List.pairwise_append.2 ⟨h2.ord, by simp, fun x hx y hy => ?_⟩, fun l2 hl2 x hx => ?_⟩
        · rw [List.mem_singleton.1 hy]
          have h3 := h2.last l hl x ((h2.mem x).1 hx)
          have h4 := hle l hlL
          rw [ele_iff] at h3 h4
          rw [elt_iff]
          omega
        · have : l2 = e := by simpa using hl2.symm
          subst this
          rcases List.mem_append.1 hx with h | h
          · exact hle x h
          · rw [List.mem_singleton.1 h, ele_iff]; omega
theorem DD.nodup {L M : List En} (h : DD L M) : M.Nodup := h.ord.imp (fun {a b} hab e => by subst e; rw [elt_iff] at hab; omega)
/-- two lists without doubles and with the same members are permutations -/
theorem perm_of_mem {A B : List En} (ha : A.Nodup) (hb : B.Nodup) (h : ∀ e, e ∈ A ↔ e ∈ B) : A.Perm B := (List.perm_ext_iff_of_nodup ha hb).2 h
/-- in strict order of the keys, the program's list is the model's -/
theorem same_of_sorted {A M : List En} (hp : A.Perm M) (ha : A.Pairwise (fun a b => klt b a = false)) (hm : M.Pairwise (fun a b => klt a b = true)) : A = M := by
  have hm2 : M.Pairwise (fun a b => klt b a = false) := hm.imp (fun {a b} h => by
    rw [klt_iff] at h
    rw [← Bool.not_eq_true, klt_iff]
    omega)
  refine hp.eq_of_pairwise (fun a b h1 h2 h3 h4 => ?_) ha hm2
  have hb := h2
  have hA := hp.subset h1
  apply Classical.byContradiction
  intro hne
  obtain ⟨i, hi, e1⟩ := List.getElem_of_mem hA
  obtain ⟨j, hj, e2⟩ := List.getElem_of_mem hb
  have hP := List.pairwise_iff_getElem.1 hm
  rcases Nat.lt_trichotomy i j with h | h | h
  · have := hP i j hi hj h
    rw [e1, e2] at this
    rw [this] at h4
    cases h4
  · subst h
    exact hne (e1.symm.trans e2)
  · have := hP j i hj hi h
    rw [e1, e2] at this
    rw [this] at h3
    cases h3
end Go.Proofs.Ytbnkhpbgibgahaa.ms
