/-
  More contracts of the crossChunkImportArray helpers over this seat's program: Swap, Len, the reader of the chunk index.
  Conditions: at most 131072 elements.
-/
import Derived.Test.YtmpiepanajhfdaaCcia
import Derived.Test.YtmpiepanajhfdaaSwap
import Derived.Test.YtmpiepanajhfdaaSort
namespace Go.Proofs.Ytmpiepanajhfdaa.ccia
open Go.ChangeShapes Go.WideShapes Go.ChangeAt Go.RowKit
open kit sorts

theorem cellsOf_set (ys : List Int) (rest : List Value) (k : Nat) (x : Int) (hk : k < ys.length) : ((cellsOf ys ++ rest).set (k * 2) (.slice none 0 0)).set (k * 2 + 1) (.int .u32 x) = cellsOf (ys.set k x) ++ rest := by
  induction ys generalizing k with
  | nil => simp at hk
  | cons y r ih =>
    have e2 : ∀ (y : Int) (q : List Int), cellsOf (y :: q) = .slice none 0 0 :: .int .u32 y :: cellsOf q := fun _ _ => rfl
    cases k with
    | zero => simp [e2]
    | succ k =>
      have h := ih k (by simpa using hk)
      have e1 : (k + 1) * 2 = k * 2 + 1 + 1 := by omega
      rw [e1, List.set_cons_succ, e2, e2]
      simp only [List.set_cons_succ, List.cons_append]
      rw [h]

def Swapped (w : World) (g : Nat) (ys : List Int) (rest : List Value) (i j : Nat) (e : Ending) (w2 : World) : Prop :=
  e = .returned (.tuple #[]) ∧ Blk w2 g 50 (cellsOf (swp ys i j) ++ rest) ∧ swap.Only w w2 g

theorem app_at {ys : List Int} {rest : List Value} {w : World} {g k : Nat} (h : Blk w g 50 (cellsOf ys ++ rest)) (hk : k < ys.length) : w.cell? ⟨g, k * 2, none⟩ = some (.slice none 0 0) ∧ w.cell? ⟨g, k * 2 + 1, none⟩ = some (.int .u32 (ys.getD k 0)) := by
  obtain ⟨a0, a1⟩ := cellsOf_at ys k hk
  have hl := cellsOf_length ys
  rw [h.cell, h.cell, List.getElem?_append_left (by omega), List.getElem?_append_left (by omega)]
  exact ⟨a0, a1⟩

set_option maxRecDepth 100000 in
set_option maxHeartbeats 4000000 in
theorem swap20 (w : World) (g n c : Nat) (ys : List Int) (rest : List Value) (i j : Nat) (h : Blk w g 50 (cellsOf ys ++ rest)) (hl : ys.length = n) (hi : i < n) (hj : j < n) (hij : i ≠ j) (hn : n ≤ 131072) :
    Calls Try.prog 20 #[.slice (some ⟨g, 0, none⟩) n c, .int .i64 (i : Int), .int .i64 (j : Int)] w (Swapped w g ys rest i j) := by
  obtain ⟨c0, c1⟩ := app_at h (show i < ys.length by omega)
  obtain ⟨d0, d1⟩ := app_at h (show j < ys.length by omega)
  have i1 : (i : Int) < (n : Int) := by omega
  have i2 : (j : Int) < (n : Int) := by omega
  have i3 : (0 : Int) ≤ (i : Int) := by omega
  have i4 : (0 : Int) ≤ (j : Int) := by omega
  have f0 := h.free (i * 2)
  have f1 := h.free (i * 2 + 1)
  have g0 := h.free (j * 2)
  have g1 := h.free (j * 2 + 1)
  have HB := Lib.hid h
  have HL := Lib.hid hl
  clear h hl
  have n1 : i * 2 ≠ j * 2 := by omega
  have HT1 := Lib.hid (cellsOf_set ys rest i (ys.getD j 0) (by rw [HL.out]; omega))
  have HT2 := Lib.hid (cellsOf_set (ys.set i (ys.getD j 0)) rest j (ys.getD i 0) (by simp; rw [HL.out]; omega))
  generalize hpi : ys.getD i 0 = vi at *
  generalize hpj : ys.getD j 0 = vj at *
  have HPI := Lib.hid hpi
  have HPJ := Lib.hid hpj
  clear hpi hpj
  go_enter Try.func20, Try.ntmps20
  go_wp2
  go_region
  all_goals go_end0
  all_goals
    refine ⟨rfl, ?_, ?_⟩
    · have h1 := ((((HB.out.set (i * 2) (.slice none 0 0)).set (i * 2 + 1) (.int .u32 vj)).set (j * 2) (.slice none 0 0)).set (j * 2 + 1) (.int .u32 vi))
      rw [HT1.out, HT2.out] at h1
      unfold swp
      rw [HPI.out, HPJ.out]
      exact h1.drew
    · exact (((((swap.Only.refl w g).set _ _).set _ _).set _ _).set _ _).drew

theorem len21 (A : Option Addr) (n c : Nat) (w : World) : Calls Try.prog 21 #[.slice A n c] w fun e w' => e = .returned (.int .i64 (n : Int)) ∧ w = w' := by
  go_enter Try.func21, Try.ntmps21
  go_wp2
  go_ret
  exact ⟨rfl, rfl⟩
theorem index22 (x : Int) (w : World) : Calls Try.prog 22 #[.agg #[.slice none 0 0, .int .u32 x]] w fun e w' => e = .returned (.int .u32 x) ∧ Kept w w' := by
  go_enter Try.func22, Try.ntmps22
  go_wp2
  go_ret
  exact ⟨rfl, (Kept.refl _).alloc _⟩
theorem bytes_ok (A : Option Addr) (n cap : Nat) (w : World) (hn : n ≤ 1048576) :
    Calls Try.prog 19 #[.slice A n cap] w fun e w' => e = .returned (.bool true) ∧ w = w' := by
  go_enter Try.func19, Try.ntmps19
  go_wp2
  go_ret
  exact ⟨rfl, rfl⟩
theorem bytes_no (A : Option Addr) (n cap : Nat) (w : World) (hn : 1048576 < n) :
    Calls Try.prog 19 #[.slice A n cap] w fun e w' => e = .returned (.bool false) ∧ w = w' := by
  go_enter Try.func19, Try.ntmps19
  go_wp2
  go_ret
  exact ⟨rfl, rfl⟩
/-- what the building left, opened -/
theorem built_blk {w : World} {base n : Nat} {v : Value} {xs : List Int} (h : w.ownsRow base 50 2 v n (cellsOf xs)) (h0 : 0 < n) : ∃ g c rest, v = .slice (some ⟨g, 0, none⟩) n c ∧ base ≤ g ∧ Blk w g 50 (cellsOf xs ++ rest) := by
  rcases h.2 with ⟨_, e2⟩ | ⟨g, cap, cur, e1, e2, hh, hnc, hcm, hcs, ht⟩
  · omega
  · refine ⟨g, cap, cur.toList.drop (n * 2), e1, e2, ?_⟩
    rw [Blk, ← ht, List.take_append_drop]
    exact hh
end Go.Proofs.Ytmpiepanajhfdaa.ccia
