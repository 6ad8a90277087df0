/-
  The files in plain terms: targets, places of exports, what fits; which alias the first call resolves.
  Conditions: none; no program in sight but for the files' own shape.
-/
import Derived.Test.YtknmcbhcbomjmaaSv
import Derived.Test.YtknmcbhcbomjmaaWf
namespace Go.Proofs.Ytknmcbhcbomjmaa.xs
open kit

def tg (x : Int) : Option Nat := if 0 ≤ x then some x.toNat else none
def exF (fs : List EF) (i : Nat) : List ByteArray := (fs.getD i default).ex
def Kf (fs : List EF) (i : Nat) : Nat := (fs.getD i default).sr.length
def Tf (fs : List EF) (i j : Nat) : Option Nat := tg ((fs.getD i default).sr.getD j 0)
def ekF (fs : List EF) (i : Nat) : Int := (fs.getD i default).ek
/-- the last place below n at which l holds a -/
noncomputable def lastAt (l : List ByteArray) : Nat → ByteArray → Option Nat
  | 0, _ => none
  | j + 1, a => open Classical in if l.getD j ByteArray.empty = a then some j else lastAt l j a
noncomputable def NEf (fs : List EF) (i : Nat) (a : ByteArray) : Option Nat := lastAt (exF fs i) (exF fs i).length a
theorem lastAt_some {l : List ByteArray} {a : ByteArray} : ∀ {n j : Nat}, lastAt l n a = some j → j < n ∧ l.getD j ByteArray.empty = a := by
  intro n
  induction n with
  | zero => intro j h; cases h
  | succ n ih =>
    intro j h
    unfold lastAt at h
    split at h
    · rename_i e
      have := Option.some.inj h
      exact ⟨by omega, by rw [← this]; exact e⟩
    · have := ih h
      exact ⟨by omega, this.2⟩
theorem lastAt_is {l : List ByteArray} {a : ByteArray} : ∀ {n : Nat}, (lastAt l n a).isSome = true ↔ ∃ j, j < n ∧ l.getD j ByteArray.empty = a := by
  intro n
  induction n with
  | zero => exact ⟨fun h => (by cases h), fun ⟨j, h, _⟩ => (by omega)⟩
  | succ n ih =>
    unfold lastAt
    split
    · rename_i e
      exact ⟨fun _ => ⟨n, by omega, e⟩, fun _ => rfl⟩
    · rename_i e
      rw [ih]
      constructor
      · rintro ⟨j, h1, h2⟩
        exact ⟨j, by omega, h2⟩
      · rintro ⟨j, h1, h2⟩
        refine ⟨j, ?_, h2⟩
        apply Classical.byContradiction
        intro c
        obtain rfl : j = n := by omega
        exact e h2
theorem lastAt_put (l : List ByteArray) (j i : Nat) : mapv.put (neV i (lastAt l j)) (.string (l.getD j ByteArray.empty)) (.agg #[.int .u32 (i : Int), .int .u32 (j : Int), .int .i32 0]) = neV i (lastAt l (j + 1)) := by
  funext v
  by_cases e : v = .string (l.getD j ByteArray.empty)
  · subst e
    rw [mapv.put_same]
    simp [neV, lastAt]
  · rw [mapv.put_ne _ _ e]
    cases v <;> try rfl
    rename_i s
    have : l.getD j ByteArray.empty ≠ s := fun c => e (by rw [c])
    unfold neV
    simp only
    rw [show lastAt l (j + 1) s = lastAt l j s from if_neg this]
theorem neV_zero (l : List ByteArray) (i : Nat) : neV i (lastAt l 0) = fun _ => none := by
  funext v
  cases v <;> rfl
theorem NEf_inj (fs : List EF) : Inj (NEf fs) := fun v a a2 j h1 h2 => (lastAt_some h1).2.symm.trans (lastAt_some h2).2
theorem NEf_at {fs : List EF} {i : Nat} {a : ByteArray} {j : Nat} (h : NEf fs i a = some j) : j < (exF fs i).length ∧ (exF fs i).getD j ByteArray.empty = a := lastAt_some h
theorem NEf_is {fs : List EF} {i : Nat} {a : ByteArray} : (NEf fs i a).isSome = true ↔ ∃ j, j < (exF fs i).length ∧ (exF fs i).getD j ByteArray.empty = a := lastAt_is

/-- the valid ones of the first j targets -/
def vsf (sr : List Int) (j : Nat) : List Nat := (List.range j).filterMap fun i => tg (sr.getD i 0)
theorem vsf_succ (sr : List Int) (j : Nat) : vsf sr (j + 1) = vsf sr j ++ (tg (sr.getD j 0)).toList := by
  unfold vsf
  rw [List.range_succ, List.filterMap_append]
  congr 1
theorem vsf_yes {sr : List Int} {j : Nat} (h : 0 ≤ sr.getD j 0) : (vsf sr (j + 1)).length = (vsf sr j).length + 1 := by
  rw [vsf_succ]
  unfold tg
  rw [if_pos h]
  simp
theorem vsf_no {sr : List Int} {j : Nat} (h : ¬ 0 ≤ sr.getD j 0) : (vsf sr (j + 1)).length = (vsf sr j).length := by
  rw [vsf_succ]
  unfold tg
  rw [if_neg h]
  simp
theorem vsf_le (sr : List Int) (j : Nat) : (vsf sr j).length ≤ j := by
  have := List.length_filterMap_le (fun i => tg (sr.getD i 0)) (List.range j)
  rw [List.length_range] at this
  exact this
def dF (fs : List EF) (i : Nat) : Nat := (vsf (fs.getD i default).sr (fs.getD i default).sr.length).length
def pr (d : Nat → Nat) (i : Nat) : Nat := ((List.range i).map fun u => max 1 (d u)).prod
theorem pr_succ (d : Nat → Nat) (i : Nat) : pr d (i + 1) = pr d i * max 1 (d i) := by
  unfold pr
  rw [List.range_succ, List.map_append, List.prod_append]
  simp
theorem pr_pos (d : Nat → Nat) (i : Nat) : 1 ≤ pr d i := prod_pos _ fun x hx => by
  obtain ⟨u, _, rfl⟩ := List.mem_map.1 hx
  omega
def nm (fs : List EF) (k : Nat) : Nat := ((List.range k).map fun i => (exF fs i).length).sum
theorem nm_succ (fs : List EF) (k : Nat) : nm fs (k + 1) = nm fs k + (exF fs k).length := by
  unfold nm
  rw [List.range_succ, List.map_append, List.sum_append]
  simp
theorem nm_mono (fs : List EF) {k m : Nat} (h : k ≤ m) : nm fs k ≤ nm fs m := by
  induction h with
  | refl => exact Nat.le_refl _
  | step _ ih => rw [nm_succ]; omega
/-- the shape that the laws ask for -/
structure Fit (n : Nat) (fs : List EF) : Prop where
  top : n ≤ 256
  len : ∀ i, i < n → Kf fs i ≤ 262144
  low : ∀ i, i < n → ∀ j, j < Kf fs i → (fs.getD i default).sr.getD j 0 < (n : Int)
  names : nm fs n ≤ 4096
  prod : pr (dF fs) n ≤ 64
theorem Fit.ex {n : Nat} {fs : List EF} (h : Fit n fs) {i : Nat} (hi : i < n) : (exF fs i).length ≤ 4096 := by
  have h1 := nm_mono fs (show i + 1 ≤ n by omega)
  have h2 := h.names
  rw [nm_succ] at h1
  omega
theorem Fit.target {n : Nat} {fs : List EF} (h : Fit n fs) {i j t : Nat} (hi : i < n) (hj : j < Kf fs i) (ht : Tf fs i j = some t) : t < n := by
  have := h.low i hi j hj
  unfold Tf tg at ht
  split at ht
  · have := Option.some.inj ht
    omega
  · cases ht
theorem bud_nil {d : Nat → Nat} {n : Nat} (hn : n ≤ 256) (hp : pr d n ≤ 64) : bud d n [] ≤ 16384 := by
  unfold bud wt
  have : ((List.range n).filter fun u => !([] : List Nat).contains u) = List.range n := by
    rw [List.filter_eq_self]
    intro a _
    rfl
  rw [this]
  have h := Nat.mul_le_mul (show n - ([] : List Nat).length ≤ 256 by simp; omega) hp
  exact h

/-- the first call: which alias is there -/
theorem sc_iff {L : Lay} {s0 : Nat} {a : ByteArray} : Sc L [] s0 a ↔ a ≠ dflt ∧ ¬ Exs L s0 a ∧ ∃ v, InN L s0 v ∧ Exs L v a := by
  constructor
  · rintro ⟨_, h1, h2⟩
    have := in_of_rt h2 (s0 := s0) (.inl rfl) (by simp)
    exact ⟨h1, this.1, this.2⟩
  · rintro ⟨h1, h2, v, h3, h4⟩
    exact ⟨by simp, h1, rt_of_in h3 h4 h2⟩
theorem stp_is {S : ByteArray → Prop} {B : Nat} {ρ2 : ByteArray → Option Ent} (h : Stp S B (fun _ => none) ρ2) (a : ByteArray) : (ρ2 a).isSome = true ↔ S a := by
  constructor
  · intro q
    obtain ⟨e, he⟩ := Option.isSome_iff_exists.1 q
    exact (h.new a e he rfl).1
  · exact h.all a
end Go.Proofs.Ytknmcbhcbomjmaa.xs
