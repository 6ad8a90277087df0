/-
  Plain law of link chains over a table of symbols: following the links from a symbol, and what compressing the path does to all other chains.
  Conditions: none.
-/
import Derived.Test.YtcndjkndmmcagaaDoorKit
namespace Go.Proofs.YtcndjkndmmcagaaDoor.chain

/-- one symbol: what the laws speak of -/
structure Sym where
  name : ByteArray
  la : Nat
  lb : Nat
  use : Nat
  flags : Nat
  kind : Nat

def zeroSym : Sym := ⟨⟨#[]⟩, 0, 0, 0, 0, 0⟩
abbrev Ref := Nat × Nat
abbrev Tab := Nat → List Sym
def inv : Ref := (4294967295, 4294967295)
def symAt (σ : Tab) (p : Ref) : Sym := (σ p.1).getD p.2 zeroSym
def lnk (σ : Tab) (p : Ref) : Ref := ((symAt σ p).la, (symAt σ p).lb)
def Valid (S : Nat) (σ : Tab) (p : Ref) : Prop := p.1 < S ∧ p.2 < (σ p.1).length

/-- p leads in d steps to r, which has no link -/
def Chain (S : Nat) (σ : Tab) : Nat → Ref → Ref → Prop
  | 0, p, r => Valid S σ p ∧ lnk σ p = inv ∧ p = r
  | d + 1, p, r => Valid S σ p ∧ lnk σ p ≠ inv ∧ Chain S σ d (lnk σ p) r
/-- the linked symbols on the way -/
def path (σ : Tab) : Nat → Ref → List Ref
  | 0, _ => []
  | d + 1, p => p :: path σ d (lnk σ p)
def setL (x : Sym) (r : Ref) : Sym := { x with la := r.1, lb := r.2 }
/-- every symbol of L linked straight to r -/
def relink (σ : Tab) (L : List Ref) (r : Ref) : Tab := fun s => (σ s).mapIdx fun j x => if (s, j) ∈ L then setL x r else x

theorem Chain.valid {S : Nat} {σ : Tab} {d : Nat} {p r : Ref} (h : Chain S σ d p r) : Valid S σ p := by cases d <;> exact h.1
theorem Chain.root {S : Nat} {σ : Tab} {d : Nat} {p r : Ref} (h : Chain S σ d p r) : Chain S σ 0 r r := by
  induction d generalizing p with
  | zero => obtain ⟨h1, h2, rfl⟩ := h; exact ⟨h1, h2, rfl⟩
  | succ d ih => exact ih h.2.2
theorem Chain.uniq {S : Nat} {σ : Tab} {d d2 : Nat} {p r r2 : Ref} (h : Chain S σ d p r) (h2 : Chain S σ d2 p r2) : d = d2 ∧ r = r2 := by
  induction d generalizing p d2 with
  | zero =>
    cases d2 with
    | zero => exact ⟨rfl, h.2.2.symm.trans h2.2.2⟩
    | succ d2 => exact absurd h.2.1 h2.2.1
  | succ d ih =>
    cases d2 with
    | zero => exact absurd h2.2.1 h.2.1
    | succ d2 =>
      obtain ⟨e1, e2⟩ := ih h.2.2 h2.2.2
      exact ⟨by rw [e1], e2⟩
/-- what lies on the way leads to the same end, in fewer steps -/
theorem Chain.of_mem {S : Nat} {σ : Tab} {d : Nat} {p r q : Ref} (h : Chain S σ d p r) (hq : q ∈ path σ d p) : ∃ e, e < d ∧ Chain S σ (e + 1) q r := by
  induction d generalizing p with
  | zero => simp [path] at hq
  | succ d ih =>
    rcases List.mem_cons.1 hq with rfl | hq
    · exact ⟨d, Nat.lt_succ_self _, h⟩
    · obtain ⟨e, he, hc⟩ := ih h.2.2 hq
      exact ⟨e, Nat.lt_succ_of_lt he, hc⟩
theorem Chain.head_not {S : Nat} {σ : Tab} {d : Nat} {p r : Ref} (h : Chain S σ (d + 1) p r) : p ∉ path σ d (lnk σ p) := by
  intro hm
  obtain ⟨e, he, hc⟩ := Chain.of_mem h.2.2 hm
  have := (Chain.uniq h hc).1
  omega
theorem Chain.root_not {S : Nat} {σ : Tab} {d : Nat} {p r : Ref} (h : Chain S σ d p r) : r ∉ path σ d p := by
  intro hm
  obtain ⟨e, he, hc⟩ := Chain.of_mem h hm
  have := (Chain.uniq h.root hc).1
  omega

section
variable (σ : Tab) (L : List Ref) (r : Ref)
theorem relink_length (s : Nat) : (relink σ L r s).length = (σ s).length := by simp [relink]
theorem relink_valid {S : Nat} {p : Ref} : Valid S (relink σ L r) p ↔ Valid S σ p := by simp [Valid, relink_length]
theorem relink_at {S : Nat} {p : Ref} (h : Valid S σ p) : symAt (relink σ L r) p = if p ∈ L then setL (symAt σ p) r else symAt σ p := by
  have h2 := h.2
  simp only [symAt, relink, List.getD_eq_getElem?_getD, List.getElem?_mapIdx, List.getElem?_eq_getElem h2, Option.map_some, Option.getD_some]
theorem relink_lnk {S : Nat} {p : Ref} (h : Valid S σ p) : lnk (relink σ L r) p = if p ∈ L then r else lnk σ p := by
  unfold lnk
  rw [relink_at σ L r h]
  split <;> rfl
theorem relink_name {S : Nat} {p : Ref} (h : Valid S σ p) : (symAt (relink σ L r) p).name = (symAt σ p).name := by
  rw [relink_at σ L r h]; split <;> rfl
theorem relink_kind {S : Nat} {p : Ref} (h : Valid S σ p) : (symAt (relink σ L r) p).kind = (symAt σ p).kind := by
  rw [relink_at σ L r h]; split <;> rfl
theorem relink_use {S : Nat} {p : Ref} (h : Valid S σ p) : (symAt (relink σ L r) p).use = (symAt σ p).use := by
  rw [relink_at σ L r h]; split <;> rfl
theorem relink_nil : relink σ [] r = σ := by
  funext s
  simp only [relink, List.not_mem_nil, if_false]
  exact List.mapIdx_eq_iff.2 (fun i => by cases (σ s)[i]? <;> rfl)
end
/-- one symbol's link set -/
def put (σ : Tab) (p : Ref) (r : Ref) : Tab := fun s => if s = p.1 then (σ s).set p.2 (setL (symAt σ p) r) else σ s
theorem put_length (σ : Tab) (p r : Ref) (s : Nat) : (put σ p r s).length = (σ s).length := by unfold put; split <;> simp
theorem setL_setL (x : Sym) (r r2 : Ref) : setL (setL x r) r2 = setL x r2 := rfl
theorem setL_self (x : Sym) (r : Ref) (h : (x.la, x.lb) = r) : setL x r = x := by subst h; rfl
theorem put_relink {S : Nat} (σ : Tab) (L : List Ref) (r p : Ref) (hv : Valid S σ p) : put (relink σ L r) p r = relink σ (p :: L) r := by
  funext s
  apply List.ext_getElem?
  intro j
  unfold put
  by_cases hs : s = p.1
  · rw [if_pos hs]
    subst hs
    by_cases hj : p.2 = j
    · subst hj
      rw [List.getElem?_set_self (by rw [relink_length]; exact hv.2)]
      rw [relink_at σ L r hv]
      simp only [relink, List.getElem?_mapIdx, List.getElem?_eq_getElem hv.2, Option.map_some]
      have e : symAt σ p = (σ p.1)[p.2]'hv.2 := by simp [symAt, hv.2]
      rw [e]
      have hm : (p.1, p.2) ∈ p :: L := List.mem_cons_self
      rw [if_pos hm]
      by_cases h : p ∈ L
      · rw [if_pos h, setL_setL]
      · rw [if_neg h]
    · rw [List.getElem?_set_ne hj]
      simp only [relink, List.getElem?_mapIdx]
      have hne : ((p.1, j) : Ref) ≠ p := fun e => hj (by rw [← e])
      simp only [List.mem_cons, hne, false_or]
  · rw [if_neg hs]
    simp only [relink, List.getElem?_mapIdx]
    have hne : ((s, j) : Ref) ≠ p := fun e => hs (by rw [← e])
    simp only [List.mem_cons, hne, false_or]
theorem put_same {S : Nat} (σ : Tab) (p r : Ref) (hv : Valid S σ p) (h : lnk σ p = r) : put σ p r = σ := by
  funext s
  unfold put
  split
  · rename_i hs
    subst hs
    rw [setL_self _ _ h]
    apply List.ext_getElem?
    intro j
    by_cases hj : p.2 = j
    · subst hj
      rw [List.getElem?_set_self hv.2]
      simp [symAt, hv.2]
    · rw [List.getElem?_set_ne hj]
  · rfl
/-- the path behind a head, in a table where the tail of the path is relinked already: the head's link is still what it was -/
theorem Chain.head_lnk {S : Nat} {σ : Tab} {d : Nat} {p r : Ref} (h : Chain S σ (d + 1) p r) : lnk (relink σ (path σ d (lnk σ p)) r) p = lnk σ p := by
  rw [relink_lnk σ _ r h.valid, if_neg h.head_not]

/-- every chain leads to its old end after a path has been compressed -/
theorem Chain.after {S : Nat} {σ : Tab} {d e : Nat} {p r q t : Ref} (h : Chain S σ d p r) (k : Chain S σ e q t) (hr : r ≠ inv) : ∃ e2, Chain S (relink σ (path σ d p) r) e2 q t := by
  have hroot : Chain S (relink σ (path σ d p) r) 0 r r := by
    refine ⟨(relink_valid ..).2 h.root.valid, ?_, rfl⟩
    rw [relink_lnk σ _ r h.root.valid, if_neg h.root_not]
    exact h.root.2.1
  induction e generalizing q with
  | zero =>
    obtain ⟨h1, h2, rfl⟩ := k
    refine ⟨0, (relink_valid ..).2 h1, ?_, rfl⟩
    rw [relink_lnk σ _ r h1]
    split
    · rename_i hm
      obtain ⟨e, he, hc⟩ := Chain.of_mem h hm
      exact absurd h2 hc.2.1
    · exact h2
  | succ e ih =>
    by_cases hm : q ∈ path σ d p
    · obtain ⟨e1, he, hc⟩ := Chain.of_mem h hm
      have et := (Chain.uniq hc k).2
      subst et
      refine ⟨1, (relink_valid ..).2 k.valid, ?_, ?_⟩
      · rw [relink_lnk σ _ r k.valid, if_pos hm]; exact hr
      · rw [relink_lnk σ _ r k.valid, if_pos hm]; exact hroot
    · obtain ⟨e2, h2⟩ := ih k.2.2
      refine ⟨e2 + 1, (relink_valid ..).2 k.valid, ?_, ?_⟩
      · rw [relink_lnk σ _ r k.valid, if_neg hm]; exact k.2.1
      · rw [relink_lnk σ _ r k.valid, if_neg hm]; exact h2
end Go.Proofs.YtcndjkndmmcagaaDoor.chain
