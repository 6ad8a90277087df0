/-
  Arguments opened: a slice of floats; a slice of slices of code units.
  Conditions: none.
-/
import Derived.Test.YtcndjkndmmcagaaDoorSl
import Derived.Deep.Matrix
import Derived.OpenShut
namespace Go.Proofs.YtcndjkndmmcagaaDoor.mp
open Go.ChangeShapes Go.WideShapes Go.ChangeAt Go.RowKit
open kit

/-- what the walk is told of a slice of floats that came in -/
def IsFlos (w : World) (a : Option Addr) (len cap : Nat) (xs : List Nat) : Prop := Row w a len cap (xs.map (Value.float .f64))
/-- what the walk is told of a slice of slices of code units that came in -/
def IsNest (w : World) (a : Option Addr) (len _cap : Nat) (vs : List Value) : Prop := Rows16 w a len vs ∧ (a = none → len = 0) ∧ len ≤ maxLen
theorem wfb {n : Int} (h : (Lit.int .u8 n).wf = true) : 0 ≤ n ∧ n ≤ 255 := by
  simp only [Lit.wf, Bool.and_eq_true, decide_eq_true_eq] at h
  exact h
section
variable {H : Type} {enc : TypeId × Value → H} {W : World}
theorem trod_floatP {P : Program} {w : World} {base : Nat} {sp : Nat → Bool} {hd : Bool} {fuel : Nat} {t : TypeId} {cs : List Value} {x : DataW H × List MemPlace} (ht : P.underlying t = some (.float .f64)) (h : DataW.trod enc P w base sp hd fuel t cs = some x) : ∃ n, cs = [.float .f64 n] := by
  cases fuel with
  | zero => simp [DataW.trod] at h
  | succ n =>
    unfold DataW.trod at h
    rw [ht] at h
    split at h <;> simp_all
theorem trod_float {sp : Nat → Bool} {hd : Bool} {fuel : Nat} {v : Value} {x : DataW H × List MemPlace} (h : DataW.trod enc Tryd.prog W 0 sp hd fuel 44 [v] = some x) : ∃ n, v = .float .f64 n := by
  obtain ⟨n, hn⟩ := trod_floatP Tryd.underlying44 h
  exact ⟨n, by simpa using hn⟩
theorem open_flos {a : Option Addr} {len cap : Nat} {d : DataW H} {p : List MemPlace} (h : DataW.Trod enc Tryd.prog W 0 (fun _ => true) true 25 (.slice a len cap) d p) : ∃ xs, IsFlos W a len cap xs := by
  obtain ⟨fuel, hf⟩ := h
  rcases Go.Deep.open_slice1 Tryd.underlying25 (by kernel_rfl) hf with ⟨hcs, _⟩ | ⟨x, l, c, m, n, V, D, Pl, hcs, _, hl, hm, hmm, _, hx⟩
  · simp [Value.cells] at hcs
    obtain ⟨rfl, rfl, rfl⟩ := hcs
    exact ⟨[], Row.nil _⟩
  · simp [Value.cells] at hcs
    obtain ⟨rfl, rfl, rfl⟩ := hcs
    simp only [if_true] at hmm
    subst hmm
    obtain ⟨X, hX⟩ := Go.Deep.choose_lt (α := Nat) (p := fun i n => V i = .float .f64 n) (fun i hi => trod_float (hx i hi).2)
    refine ⟨(List.range len).map X, by simp, hl, hm, fun h => (by cases h), fun hn => ?_⟩
    obtain ⟨b, off, spot⟩ := x
    have h0 := (hx 0 (by omega)).1
    have hspot : spot = none := by simpa [Addr.add] using World.cell?_spot h0
    subst hspot
    refine ⟨b, off, rfl, by simpa [Addr.add] using World.block_lt_of_cell? W _ h0, fun i hi => ?_⟩
    have hi2 : i < len := by simpa using hi
    have h1 := (hx i (by omega)).1
    rw [addOff, hX i (by omega)] at h1
    rw [h1]
    simp
theorem open_nest {a : Option Addr} {len cap : Nat} {d : DataW H} {p : List MemPlace} (h : DataW.Trod enc Tryd.prog W 0 (fun _ => true) true 26 (.slice a len cap) d p) : ∃ vs, IsNest W a len cap vs := by
  obtain ⟨fuel, hf⟩ := h
  rcases Go.Deep.open_int_rows Tryd.underlying26 Tryd.underlying43 Tryd.underlying60 (by kernel_rfl) (by kernel_rfl) hf with ⟨hcs, _⟩ | ⟨x, l, c, A, L, C, Z, hcs, _, hl, hm, _, hx⟩
  · simp [Value.cells] at hcs
    obtain ⟨rfl, rfl, rfl⟩ := hcs
    exact ⟨[], ⟨rfl, fun i hi => absurd hi (by omega), fun h => absurd h (by omega)⟩, fun _ => rfl, Nat.zero_le _⟩
  · simp [Value.cells] at hcs
    obtain ⟨rfl, rfl, rfl⟩ := hcs
    have hv : ∀ i, i < len → ((List.range len).map fun r => Value.slice (A r) (L r) (C r)).getD i (.slice none 0 0) = .slice (A i) (L i) (C i) := fun i hi => by simp [hi]
    refine ⟨(List.range len).map fun r => .slice (A r) (L r) (C r), ⟨by simp, fun i hi => ?_, fun hn => ?_⟩, fun h => (by cases h), by omega⟩
    · rw [hv i hi]
      obtain ⟨_, r1, r2, r3, r4, r5, r6⟩ := hx i (by omega)
      refine ⟨A i, L i, C i, (Z i).take (L i), rfl, ?_⟩
      cases hA : A i with
      | none =>
        have hc := r5 hA
        rw [hc] at r1 r3
        have hl0 : L i = 0 := by omega
        have hz : Z i = [] := List.eq_nil_of_length_eq_zero r3
        rw [hc, hl0, hz]
        exact Row.nil _
      | some x => exact Row.of_cells r1 r2 r3 (fun j hj => (r6 x hA).2 j (by omega))
    · obtain ⟨b, off, spot⟩ := x
      have h0 := (hx 0 (by omega)).1
      have hspot : spot = none := by simpa [Addr.add] using World.cell?_spot h0
      subst hspot
      refine ⟨b, off, rfl, by simpa [Addr.add] using World.block_lt_of_cell? W _ h0, fun i hi => ?_⟩
      have h1 := (hx i (by omega)).1
      rw [addOff] at h1
      rw [h1, hv i hi]
end
end Go.Proofs.YtcndjkndmmcagaaDoor.mp
