/-
  Plain law of the law file's links: the root found step by step, the table of symbols with these links and kinds, its chains.
  Conditions: none.
-/
import Derived.Test.YtcndjkndmmcagaaDoorArena
import Derived.Test.YtcndjkndmmcagaaDoorMapF
namespace Go.Proofs.YtcndjkndmmcagaaDoor.mp
open kit chain arena

/-- the link of symbol i: -1 for none -/
def lk (zs : List Int) (i : Nat) : Int := zs.getD i (-1)
/-- the root within so many steps -/
def rootS (zs : List Int) : Nat → Nat → Option Nat
  | 0, _ => none
  | k + 1, r => if lk zs r = -1 then some r else rootS zs k (lk zs r).toNat
def Links (n : Nat) (zs : List Int) : Prop := zs.length = n ∧ ∀ i, i < n → lk zs i = -1 ∨ (0 ≤ lk zs i ∧ lk zs i < (n : Int))
def refOf (l : Int) : Ref := if l = -1 then inv else (0, l.toNat)
theorem refOf_ne {l : Int} (h : l ≠ -1) : refOf l = (0, l.toNat) := if_neg h
theorem refOf_inv {l : Int} (h : l = -1) : refOf l = inv := if_pos h
def mkS (zs : List Int) (ks : List Int) (i : Nat) : Sym := ⟨⟨#[]⟩, (refOf (lk zs i)).1, (refOf (lk zs i)).2, 0, 0, (ks.getD i (-1)).toNat⟩
/-- n symbols, the first k of them laid -/
def upTo (zs : List Int) (ks : List Int) (n k : Nat) : List Sym := (List.range n).map fun j => if j < k then mkS zs ks j else zeroSym
theorem upTo_length (zs : List Int) (ks : List Int) (n k : Nat) : (upTo zs ks n k).length = n := by simp [upTo]
theorem upTo_at (zs : List Int) (ks : List Int) {n k : Nat} (h : k < n) : (upTo zs ks n k).getD k zeroSym = zeroSym := by simp [upTo, h]
theorem upTo_set (zs : List Int) (ks : List Int) {n k : Nat} (h : k < n) : (upTo zs ks n k).set k (mkS zs ks k) = upTo zs ks n (k + 1) := by
  apply List.ext_getElem?
  intro j
  by_cases hj : k = j
  · subst hj
    rw [List.getElem?_set_self (by rw [upTo_length]; exact h)]
    simp [upTo, h]
  · rw [List.getElem?_set_ne hj]
    simp only [upTo, List.getElem?_map]
    by_cases hjn : j < n
    · rw [List.getElem?_range hjn]
      simp only [Option.map_some]
      by_cases hk : j < k
      · rw [if_pos hk, if_pos (by omega)]
      · rw [if_neg hk, if_neg (by omega)]
    · simp [hjn]
theorem upTo_zero (zs : List Int) (ks : List Int) (n : Nat) : upTo zs ks n 0 = List.replicate n zeroSym := by
  apply List.ext_getElem?
  intro j
  simp only [upTo, List.getElem?_map, List.getElem?_replicate]
  by_cases h : j < n <;> simp [h]
def tab (zs : List Int) (ks : List Int) (n : Nat) : Tab := fun _ => upTo zs ks n n
theorem tab_at (zs : List Int) (ks : List Int) {n i : Nat} (h : i < n) : symAt (tab zs ks n) (0, i) = mkS zs ks i := by simp [symAt, tab, upTo, h]
theorem tab_valid (zs : List Int) (ks : List Int) {n i : Nat} (h : i < n) : Valid 1 (tab zs ks n) (0, i) := ⟨Nat.zero_lt_one, by simp only [tab, upTo_length]; exact h⟩
theorem tab_lnk (zs : List Int) (ks : List Int) {n i : Nat} (h : i < n) : lnk (tab zs ks n) (0, i) = refOf (lk zs i) := by
  unfold lnk
  rw [tab_at zs ks h]
  rfl
theorem root_chain {n : Nat} {zs : List Int} (ks : List Int) (h : Links n zs) (k : Nat) : ∀ i r, i < n → rootS zs k i = some r → r < n ∧ ∃ d, Chain 1 (tab zs ks n) d (0, i) (0, r) := by
  induction k with
  | zero => intro i r _ e; cases e
  | succ k ih =>
    intro i r hi e
    simp only [rootS] at e
    by_cases c : lk zs i = -1
    · rw [if_pos c] at e
      obtain rfl := Option.some.inj e
      exact ⟨hi, 0, tab_valid zs ks hi, by rw [tab_lnk zs ks hi, refOf_inv c], rfl⟩
    · rw [if_neg c] at e
      have hr := (h.2 i hi).resolve_left c
      obtain ⟨h1, d, h2⟩ := ih _ r (by omega) e
      refine ⟨h1, d + 1, tab_valid zs ks hi, ?_, ?_⟩
      · rw [tab_lnk zs ks hi, refOf_ne c]
        intro e2
        have := congrArg Prod.fst e2
        simp [inv] at this
      · rw [tab_lnk zs ks hi, refOf_ne c]; exact h2
theorem root_lnk {n : Nat} {zs : List Int} (h : Links n zs) (k : Nat) : ∀ i r, i < n → rootS zs k i = some r → r < n ∧ lk zs r = -1 := by
  induction k with
  | zero => intro i r _ e; cases e
  | succ k ih =>
    intro i r hi e
    simp only [rootS] at e
    by_cases c : lk zs i = -1
    · rw [if_pos c] at e
      obtain rfl := Option.some.inj e
      exact ⟨hi, c⟩
    · rw [if_neg c] at e
      have hr := (h.2 i hi).resolve_left c
      exact ih _ r (by omega) e

/-- a symbol's ref as a map's key -/
def key (i : Nat) : Value := .agg #[.int .u32 0, .int .u32 (i : Int)]
theorem key_inj {i j : Nat} (h : key i = key j) : i = j := by
  have := congrArg (fun v => match v with | Value.agg cs => cs[1]? | _ => none) h
  simp [key] at this
  omega
end Go.Proofs.YtcndjkndmmcagaaDoor.mp
