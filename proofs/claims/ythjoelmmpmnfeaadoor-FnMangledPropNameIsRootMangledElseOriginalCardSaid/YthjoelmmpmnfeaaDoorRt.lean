/-
  Plain law of the law file's links: the root found step by step, the table of symbols with these links, its chains.
  Conditions: none.
-/
import Derived.Test.YthjoelmmpmnfeaaDoorArena
import Derived.Test.YthjoelmmpmnfeaaDoorMapF
namespace Go.Proofs.YthjoelmmpmnfeaaDoor.mp
open kit chain arena

/-- the link of symbol i: -1 for none -/
def lk (zs : List Int) (i : Nat) : Int := zs.getD i (-1)
/-- the root within so many steps -/
def rootS (zs : List Int) : Nat → Nat → Option Nat
  | 0, _ => none
  | k + 1, r => if lk zs r = -1 then some r else rootS zs k (lk zs r).toNat
def Links (n : Nat) (zs : List Int) : Prop := zs.length = n ∧ ∀ i, i < n → lk zs i = -1 ∨ (0 ≤ lk zs i ∧ lk zs i < (n : Int))
def refOf (l : Int) : Ref := if l = -1 then inv else (0, l.toNat)
theorem refOf_ne {l : Int} (h : l ≠ -1) : refOf l = (0, l.toNat) := if_neg h
theorem refOf_inv {l : Int} (h : l = -1) : refOf l = inv := if_pos h
def mkS (zs : List Int) (ns : List ByteArray) (i : Nat) : Sym := ⟨ns.getD i ByteArray.empty, (refOf (lk zs i)).1, (refOf (lk zs i)).2, 0, 0, 0⟩
/-- n symbols, the first k of them laid -/
def upTo (zs : List Int) (ns : List ByteArray) (n k : Nat) : List Sym := (List.range n).map fun j => if j < k then mkS zs ns j else zeroSym
theorem upTo_length (zs : List Int) (ns : List ByteArray) (n k : Nat) : (upTo zs ns n k).length = n := by simp [upTo]
theorem upTo_at (zs : List Int) (ns : List ByteArray) {n k : Nat} (h : k < n) : (upTo zs ns n k).getD k zeroSym = zeroSym := by simp [upTo, h]
theorem upTo_set (zs : List Int) (ns : List ByteArray) {n k : Nat} (h : k < n) : (upTo zs ns n k).set k (mkS zs ns k) = upTo zs ns n (k + 1) := by
  apply List.ext_getElem?
  intro j
  by_cases hj : k = j
  · subst hj
    rw [List.getElem?_set_self (by rw [upTo_length]; exact h)]
    simp [upTo, h]
  · rw [List.getElem?_set_ne hj]
    simp only [upTo, List.getElem?_map]
    by_cases hjn : j < n
    · rw [List.getElem?_range hjn]
      simp only [Option.map_some]
      by_cases hk : j < k
      · rw [if_pos hk, if_pos (by omega)]
      · rw [if_neg hk, if_neg (by omega)]
    · simp [hjn]
theorem upTo_zero (zs : List Int) (ns : List ByteArray) (n : Nat) : upTo zs ns n 0 = List.replicate n zeroSym := by
  apply List.ext_getElem?
  intro j
  simp only [upTo, List.getElem?_map, List.getElem?_replicate]
  by_cases h : j < n <;> simp [h]
def tab (zs : List Int) (ns : List ByteArray) (n : Nat) : Tab := fun _ => upTo zs ns n n
theorem tab_at (zs : List Int) (ns : List ByteArray) {n i : Nat} (h : i < n) : symAt (tab zs ns n) (0, i) = mkS zs ns i := by simp [symAt, tab, upTo, h]
theorem tab_valid (zs : List Int) (ns : List ByteArray) {n i : Nat} (h : i < n) : Valid 1 (tab zs ns n) (0, i) := ⟨Nat.zero_lt_one, by simp only [tab, upTo_length]; exact h⟩
theorem tab_lnk (zs : List Int) (ns : List ByteArray) {n i : Nat} (h : i < n) : lnk (tab zs ns n) (0, i) = refOf (lk zs i) := by
  unfold lnk
  rw [tab_at zs ns h]
  rfl
theorem root_chain {n : Nat} {zs : List Int} (ns : List ByteArray) (h : Links n zs) (k : Nat) : ∀ i r, i < n → rootS zs k i = some r → r < n ∧ ∃ d, Chain 1 (tab zs ns n) d (0, i) (0, r) := by
  induction k with
  | zero => intro i r _ e; cases e
  | succ k ih =>
    intro i r hi e
    simp only [rootS] at e
    by_cases c : lk zs i = -1
    · rw [if_pos c] at e
      obtain rfl := Option.some.inj e
      exact ⟨hi, 0, tab_valid zs ns hi, by rw [tab_lnk zs ns hi, refOf_inv c], rfl⟩
    · rw [if_neg c] at e
      have hr := (h.2 i hi).resolve_left c
      obtain ⟨h1, d, h2⟩ := ih _ r (by omega) e
      refine ⟨h1, d + 1, tab_valid zs ns hi, ?_, ?_⟩
      · rw [tab_lnk zs ns hi, refOf_ne c]
        intro e2
        have := congrArg Prod.fst e2
        simp [inv] at this
      · rw [tab_lnk zs ns hi, refOf_ne c]; exact h2
theorem root_lnk {n : Nat} {zs : List Int} (h : Links n zs) (k : Nat) : ∀ i r, i < n → rootS zs k i = some r → r < n ∧ lk zs r = -1 := by
  induction k with
  | zero => intro i r _ e; cases e
  | succ k ih =>
    intro i r hi e
    simp only [rootS] at e
    by_cases c : lk zs i = -1
    · rw [if_pos c] at e
      obtain rfl := Option.some.inj e
      exact ⟨hi, c⟩
    · rw [if_neg c] at e
      have hr := (h.2 i hi).resolve_left c
      exact ih _ r (by omega) e

/-- a symbol's ref as a map's key -/
def key (i : Nat) : Value := .agg #[.int .u32 0, .int .u32 (i : Int)]
theorem key_inj {i j : Nat} (h : key i = key j) : i = j := by
  have := congrArg (fun v => match v with | Value.agg cs => cs[1]? | _ => none) h
  simp [key] at this
  omega
open Classical in
/-- the map of mangled names, k of them looked at -/
noncomputable def mf (hs : List Bool) (ms : List ByteArray) (k : Nat) (v : Value) : Option Value := if h : ∃ i, i < k ∧ hs.getD i false = true ∧ v = key i then some (.string (ms.getD h.choose ByteArray.empty)) else none
section
variable {hs : List Bool} {ms : List ByteArray} {k i : Nat} {v : Value}
theorem mf_some (ms : List ByteArray) (hi : i < k) (hh : hs.getD i false = true) : mf hs ms k (key i) = some (.string (ms.getD i ByteArray.empty)) := by
  unfold mf
  have h : ∃ j, j < k ∧ hs.getD j false = true ∧ key i = key j := ⟨i, hi, hh, rfl⟩
  rw [dif_pos h, ← key_inj h.choose_spec.2.2]
theorem mf_none (ms : List ByteArray) (h : ∀ i, i < k → hs.getD i false = true → v ≠ key i) : mf hs ms k v = none := by
  unfold mf
  rw [dif_neg]
  rintro ⟨i, h1, h2, h3⟩
  exact h i h1 h2 h3
theorem mf_at (hs : List Bool) (ms : List ByteArray) (k i : Nat) : mf hs ms k (key i) = if i < k ∧ hs.getD i false = true then some (.string (ms.getD i ByteArray.empty)) else none := by
  by_cases h : i < k ∧ hs.getD i false = true
  · rw [if_pos h]; exact mf_some ms h.1 h.2
  · rw [if_neg h]
    refine mf_none ms fun j h1 h2 e => h ?_
    have := key_inj e
    subst this
    exact ⟨h1, h2⟩
theorem mf_zero (hs : List Bool) (ms : List ByteArray) : mf hs ms 0 = fun _ => none := by
  funext v
  exact mf_none ms fun i h => absurd h (by omega)
theorem mf_other (hs : List Bool) (ms : List ByteArray) (h : v ≠ key k) : mf hs ms (k + 1) v = mf hs ms k v := by
  by_cases e : ∃ i, v = key i
  · obtain ⟨i, rfl⟩ := e
    have hne : i ≠ k := fun c => h (by rw [c])
    rw [mf_at, mf_at]
    have : i < k + 1 ↔ i < k := by omega
    simp only [this]
  · rw [mf_none ms fun i _ _ c => e ⟨i, c⟩, mf_none ms fun i _ _ c => e ⟨i, c⟩]
theorem mf_no (ms : List ByteArray) (h : hs.getD k false = false) : mf hs ms (k + 1) = mf hs ms k := by
  funext v
  by_cases e : v = key k
  · rw [e, mf_at, mf_at, h]; simp
  · exact mf_other hs ms e
theorem mf_put (ms : List ByteArray) (h : hs.getD k false = true) : mapf.put (mf hs ms k) (key k) (.string (ms.getD k ByteArray.empty)) = mf hs ms (k + 1) := by
  funext v
  by_cases e : v = key k
  · rw [e, mapf.put_same, mf_some ms (Nat.lt_succ_self k) h]
  · rw [mapf.put_ne _ _ e, mf_other hs ms e]
end
end Go.Proofs.YthjoelmmpmnfeaaDoor.mp
