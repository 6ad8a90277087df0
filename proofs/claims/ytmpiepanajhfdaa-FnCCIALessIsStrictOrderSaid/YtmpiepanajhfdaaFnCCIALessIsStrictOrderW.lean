/-
  The walk of FnCCIALessIsStrictOrder: For any three in-range positions (crossChunkImportArray).Less is irreflexive, never true both ways and transitive, and two elements are incomparable exactly when their chunk indices are equal.
  Conditions: none beyond those of the given statement Rows.FnCCIALessIsStrictOrderSaid.
-/
import Derived.Test.YtmpiepanajhfdaaRows
import Derived.WalkKit
import Derived.ProofKit
import Derived.OpenShut
import Derived.ShutString
import Derived.ChangeOld
import Derived.Below
import Derived.Test.YtmpiepanajhfdaaCcia
namespace Go.Proofs.Ytmpiepanajhfdaa.fnCCIALessIsStrictOrder
open Go.ChangeShapes Go.WideShapes Go.ChangeAt Go.RowKit
open Go.ChangeMaps (open_string shut_string)
set_option linter.unusedVariables false


/-- WHAT THE WALK IS TOLD OF A SLICE OF INTEGERS THAT CAME IN: it is nil; or it leads to a row of 'cap' cells, the numbers 'zs' (the first 'len' are its elements, the rest its spare room), each fitting its kind. -/
def IsRow (k : IntKind) (w : World) (a : Option Addr) (len cap : Nat) (zs : List Int) : Prop :=
  (a = none ∧ len = 0 ∧ cap = 0 ∧ zs = []) ∨
  ∃ x, a = some x ∧ len ≤ cap ∧ cap ≤ maxLen ∧ zs.length = cap ∧ (∀ i, i < zs.length → w.cell? (x.add i) = some (.int k (zs.getD i 0))) ∧ ∀ n ∈ zs, (Lit.int k n).wf = true

open kit ccia
theorem bytes_ok (A : Option Addr) (n cap : Nat) (i j k : Int) (w : World) (hn : n ≤ 1048576) :
    Calls Try.prog 16 #[.slice A n cap, .int .i64 i, .int .i64 j, .int .i64 k] w fun e w' => e = .returned (.bool true) ∧ w = w' := by
  go_enter Try.func16, Try.ntmps16
  go_wp2
  go_ret
  exact ⟨rfl, rfl⟩
theorem bytes_no (A : Option Addr) (n cap : Nat) (i j k : Int) (w : World) (hn : 1048576 < n) :
    Calls Try.prog 16 #[.slice A n cap, .int .i64 i, .int .i64 j, .int .i64 k] w fun e w' => e = .returned (.bool false) ∧ w = w' := by
  go_enter Try.func16, Try.ntmps16
  go_wp2
  go_ret
  exact ⟨rfl, rfl⟩

def LT (xs : List Int) (x y : Nat) : Bool := decide (xs.getD x 0 < xs.getD y 0)
theorem LT_iff {xs : List Int} {x y : Nat} : LT xs x y = true ↔ xs.getD x 0 < xs.getD y 0 := by simp [LT]
theorem LT_not {xs : List Int} {x y : Nat} : LT xs x y = false ↔ ¬ xs.getD x 0 < xs.getD y 0 := by simp [LT]

def LessAt (v : Value) (n : Nat) (xs : List Int) (w3 : World) : Prop :=
  ∀ (x y : Nat) (wr : World), x < n → y < n → Kept w3 wr →
    Calls Try.prog 18 #[v, .int .i64 (x : Int), .int .i64 (y : Int)] wr fun e w' => e = .returned (.bool (LT xs x y)) ∧ Kept w3 w'

theorem lessAt {base n : Nat} {v : Value} {xs : List Int} {w3 : World} (hown : w3.ownsRow base 50 2 v n (cellsOf xs)) (hl : xs.length = n) (h0 : 0 < n) (hn : n ≤ 131072) : LessAt v n xs w3 := by
  intro x y wr hx hy hk
  obtain ⟨g, cap, hform, _, hlt⟩ := hown.form h0
  rw [hform] at hown ⊢
  refine (less g n cap xs x y wr hx hy hn (fun k hk2 => hk.cell ?_)).mono ?_
  · rw [hown.cellAt _ (by omega)]
    exact (cellsOf_at xs k (by omega)).2
  · rintro e w' ⟨rfl, h⟩
    exact ⟨rfl, hk.trans h⟩

set_option maxRecDepth 100000 in
set_option maxHeartbeats 8000000 in
theorem main (A : Option Addr) (n cap : Nat) (xs : List Int) (i j k : Nat) (w : World) (hr : Row w A n cap (xs.map (Value.int .u32))) (hn : n ≤ 131072) (hi : i < n) (hj : j < n) (hk : k < n) :
    Calls Try.prog 6 #[.slice A n cap, .int .i64 (i : Int), .int .i64 (j : Int), .int .i64 (k : Int)] w fun e w' => e = .returned (.bool true) ∧ Below w.heap.size w w' := by
  have hlen : xs.length = n := by simpa using hr.1
  obtain ⟨b, off, hA, hbl, hcell⟩ := hr.2.2.2.2 (by omega)
  have HR := Lib.hid hr
  have HL := Lib.hid hlen
  subst hA
  have ci : w.cell? ⟨b, off + i, none⟩ = some (.int .u32 (xs.getD i 0)) := by
    rw [hcell i (by simp; omega)]; simp [hlen, hi]
  have cj : w.cell? ⟨b, off + j, none⟩ = some (.int .u32 (xs.getD j 0)) := by
    rw [hcell j (by simp; omega)]; simp [hlen, hj]
  have CI := Lib.hid ci
  have CJ := Lib.hid cj
  clear hr hlen hcell hbl ci cj
  have i1 : (i : Int) < (n : Int) := by omega
  have i2 : (j : Int) < (n : Int) := by omega
  have i3 : (k : Int) < (n : Int) := by omega
  have d1 : decide ((n : Int) ≤ (i : Int)) = false := by simp; omega
  have d2 : decide ((n : Int) ≤ (j : Int)) = false := by simp; omega
  have d3 : decide ((n : Int) ≤ (k : Int)) = false := by simp; omega
  have hirr : LT xs i i = false := by rw [LT_not]; omega
  go_enter Try.func6, Try.ntmps6
  go_wp2_with fail
  refine (bytes_ok (some ⟨b, off, none⟩) n cap i j k w (by omega)).mono ?_
  rintro e w' ⟨rfl, rfl⟩
  go_wp2_with fail
  refine (build (some ⟨b, off, none⟩) n cap xs w HR.out hn).mono ?_
  rintro e w3 ⟨v, rfl, hown, hk3⟩
  have HLA := Lib.hid (lessAt hown HL.out (by omega) hn)
  have K3 := Lib.hid hk3
  have C3 := Lib.hid (hk3.cell CI.out)
  have D3 := Lib.hid (hk3.cell CJ.out)
  clear hown hk3
  have hk0 := Kept.refl w3
  go_wp2_with fail
  refine (HLA.out i i w3 hi hi hk0).mono ?_
  rintro e w4 ⟨rfl, hk4⟩
  rw [hirr]
  clear hirr hk0
  go_wp2_with fail
  refine (HLA.out i j w4 hi hj hk4).mono ?_
  rintro e w5 ⟨rfl, hk5⟩
  clear hk4
  go_wp2_with fail
  refine (HLA.out j i w5 hj hi hk5).mono ?_
  rintro e w6 ⟨rfl, hk6⟩
  clear hk5
  have c6 := hk6.cell C3.out
  have e6 := hk6.cell D3.out
  rcases bools (LT xs i j) with pij | pij <;> rcases bools (LT xs j i) with pji | pji <;> rcases bools (LT xs j k) with pjk | pjk <;> rcases bools (LT xs i k) with pik | pik <;> rcases bools (xs.getD i 0 == xs.getD j 0) with pe | pe <;> first
    | (exfalso; simp only [LT_iff, LT_not, beq_iff_eq, beq_eq_false_iff_ne, ne_eq] at pij pji pjk pik pe; omega)
    | skip
  all_goals
    rw [pij, pji]
    generalize xs.getD i 0 = vi at *
    generalize xs.getD j 0 = vj at *
    go_wp2_with fail
    go_quiet (fail)
    go_wp2_with (go_at_call 18; refine (HLA.out _ _ _ (by omega) (by omega) (by first | assumption | (refine Kept.drewN ?_ _; assumption))).mono ?_; rintro e wz ⟨rfl, hkz⟩)
    go_ret
    exact ⟨rfl, (K3.out.trans (by first | assumption | (refine Kept.drewN ?_ _; assumption))).below⟩

theorem walk (a0 : Option Addr) (len0 cap0 : Nat) (z0 : List Int) (a1 : Int) (a2 : Int) (a3 : Int) (w : World) (w0 : IsRow .u32 w a0 len0 cap0 z0) (w1 : (Lit.int .i64 a1).wf = true) (w2 : (Lit.int .i64 a2).wf = true) (w3 : (Lit.int .i64 a3).wf = true) :
    Calls Try.prog 6 #[.slice a0 len0 cap0, .int .i64 a1, .int .i64 a2, .int .i64 a3] w fun e w' => e = .returned (.bool true) ∧ Below w.heap.size w w' := by
  have hrow : Row w a0 len0 cap0 ((z0.take len0).map (Value.int .u32)) := by
    rcases w0 with ⟨rfl, rfl, rfl, rfl⟩ | ⟨x, rfl, hl, hm, hz, hcell, hwz⟩
    · exact Row.nil w
    · exact Row.of_cells hl hm hz hcell
  have hml : (len0 : Int) ≤ 9223372036854775807 := by
    have h1 := hrow.2.1; have h2 := hrow.2.2.1; unfold maxLen at h2; omega
  have HR := Lib.hid hrow
  clear w1 w2 w3 w0 hrow
  by_cases c1 : 1048576 < len0
  · go_enter Try.func6, Try.ntmps6
    go_wp2_with fail
    refine (bytes_no a0 len0 cap0 a1 a2 a3 w c1).mono ?_
    rintro e w' ⟨rfl, rfl⟩
    go_wp2
    go_ret
    exact ⟨rfl, Below.refl _ _⟩
  by_cases c2 : 131072 < len0
  · go_enter Try.func6, Try.ntmps6
    go_wp2_with fail
    refine (bytes_ok a0 len0 cap0 a1 a2 a3 w (by omega)).mono ?_
    rintro e w' ⟨rfl, rfl⟩
    go_wp2
    go_ret
    exact ⟨rfl, Below.refl _ _⟩
  by_cases c3 : a1 < 0
  · go_enter Try.func6, Try.ntmps6
    go_wp2_with fail
    refine (bytes_ok a0 len0 cap0 a1 a2 a3 w (by omega)).mono ?_
    rintro e w' ⟨rfl, rfl⟩
    go_wp2
    go_ret
    exact ⟨rfl, Below.refl _ _⟩
  by_cases c4 : (len0 : Int) ≤ a1
  · go_enter Try.func6, Try.ntmps6
    go_wp2_with fail
    refine (bytes_ok a0 len0 cap0 a1 a2 a3 w (by omega)).mono ?_
    rintro e w' ⟨rfl, rfl⟩
    go_wp2
    go_ret
    exact ⟨rfl, Below.refl _ _⟩
  have d4 : decide ((len0 : Int) ≤ a1) = false := by simp; omega
  by_cases c5 : a2 < 0
  · go_enter Try.func6, Try.ntmps6
    go_wp2_with fail
    refine (bytes_ok a0 len0 cap0 a1 a2 a3 w (by omega)).mono ?_
    rintro e w' ⟨rfl, rfl⟩
    go_wp2
    go_ret
    exact ⟨rfl, Below.refl _ _⟩
  by_cases c6 : (len0 : Int) ≤ a2
  · go_enter Try.func6, Try.ntmps6
    go_wp2_with fail
    refine (bytes_ok a0 len0 cap0 a1 a2 a3 w (by omega)).mono ?_
    rintro e w' ⟨rfl, rfl⟩
    go_wp2
    go_ret
    exact ⟨rfl, Below.refl _ _⟩
  have d6 : decide ((len0 : Int) ≤ a2) = false := by simp; omega
  by_cases c7 : a3 < 0
  · go_enter Try.func6, Try.ntmps6
    go_wp2_with fail
    refine (bytes_ok a0 len0 cap0 a1 a2 a3 w (by omega)).mono ?_
    rintro e w' ⟨rfl, rfl⟩
    go_wp2
    go_ret
    exact ⟨rfl, Below.refl _ _⟩
  by_cases c8 : (len0 : Int) ≤ a3
  · go_enter Try.func6, Try.ntmps6
    go_wp2_with fail
    refine (bytes_ok a0 len0 cap0 a1 a2 a3 w (by omega)).mono ?_
    rintro e w' ⟨rfl, rfl⟩
    go_wp2
    go_ret
    exact ⟨rfl, Below.refl _ _⟩
  obtain ⟨i, rfl⟩ := Int.eq_ofNat_of_zero_le (show 0 ≤ a1 by omega)
  obtain ⟨j, rfl⟩ := Int.eq_ofNat_of_zero_le (show 0 ≤ a2 by omega)
  obtain ⟨k, rfl⟩ := Int.eq_ofNat_of_zero_le (show 0 ≤ a3 by omega)
  exact main a0 len0 cap0 _ i j k w HR.out (by omega) (by omega) (by omega) (by omega)
end Go.Proofs.Ytmpiepanajhfdaa.fnCCIALessIsStrictOrder
