/-
  Contracts of the charAndCountArray helpers over this seat's program: a row of tagged elements, Swap, the readers of count and index.
  Conditions: at most 65536 elements.
-/
import Derived.Test.YtmpiepanajhfdaaBlk
import Derived.LoopTactic
import Derived.RegionTactic
import Derived.ChangeAlike
import Derived.BigRegion
namespace Go.Proofs.Ytmpiepanajhfdaa.swap
open Go.ChangeShapes Go.WideShapes Go.ChangeAt Go.RowKit
open kit

/-- the cells of an array whose tags are ps -/
def cellsOf (ps : List Nat) : List Value := ps.flatMap fun (t : Nat) => [.string ⟨#[]⟩, .int .i32 (t : Int), .int .u8 ((t % 256 : Nat) : Int)]
theorem cellsOf_length (ps : List Nat) : (cellsOf ps).length = ps.length * 3 := by
  induction ps with
  | nil => rfl
  | cons x r ih => simp [cellsOf] at ih ⊢; omega
theorem cellsOf_at (ps : List Nat) (k : Nat) (hk : k < ps.length) : (cellsOf ps)[k * 3]? = some (.string ⟨#[]⟩) ∧ (cellsOf ps)[k * 3 + 1]? = some (.int .i32 ((ps.getD k 0 : Nat) : Int)) ∧ (cellsOf ps)[k * 3 + 2]? = some (.int .u8 ((ps.getD k 0 % 256 : Nat) : Int)) := by
  induction ps generalizing k with
  | nil => simp at hk
  | cons x r ih =>
    cases k with
    | zero => simp [cellsOf]
    | succ k =>
      have h := ih k (by simpa using hk)
      have e1 : (k + 1) * 3 = k * 3 + 1 + 1 + 1 := by omega
      have e2 : cellsOf (x :: r) = .string ⟨#[]⟩ :: .int .i32 (x : Int) :: .int .u8 ((x % 256 : Nat) : Int) :: cellsOf r := rfl
      rw [e1, e2]
      simpa using h
theorem cellsOf_set (ps : List Nat) (k t : Nat) (hk : k < ps.length) : (((cellsOf ps).set (k * 3) (.string ⟨#[]⟩)).set (k * 3 + 1) (.int .i32 (t : Int))).set (k * 3 + 2) (.int .u8 ((t % 256 : Nat) : Int)) = cellsOf (ps.set k t) := by
  induction ps generalizing k with
  | nil => simp at hk
  | cons x r ih =>
    have e2 : ∀ (y : Nat) (q : List Nat), cellsOf (y :: q) = .string ⟨#[]⟩ :: .int .i32 (y : Int) :: .int .u8 ((y % 256 : Nat) : Int) :: cellsOf q := fun _ _ => rfl
    cases k with
    | zero => simp [e2]
    | succ k =>
      have h := ih k (by simpa using hk)
      have e1 : (k + 1) * 3 = k * 3 + 1 + 1 + 1 := by omega
      rw [e1, List.set_cons_succ, e2, e2]
      simp only [List.set_cons_succ]
      rw [h]

/-- only block g may have turned -/
def Only (w w2 : World) (g : Nat) : Prop := w.grownBy w2 (some g)
theorem Only.refl (w : World) (g : Nat) : Only w w g := ⟨rfl, rfl, rfl, Nat.le_refl _, fun _ _ _ => rfl⟩
theorem Only.drew {w w2 : World} {g : Nat} (h : Only w w2 g) : Only w w2.drew g := ⟨h.os, h.tape, h.output, h.size, h.block⟩
theorem Only.set {w w2 : World} {g : Nat} (h : Only w w2 g) (i : Nat) (u : Value) : Only w (w2.setCell ⟨g, i, none⟩ u) g :=
  ⟨h.os, h.tape, h.output, by simpa [World.setCell] using h.size, fun k hk hne => (Below.heap_setCell w2 ⟨g, i, none⟩ u k (fun e => hne (by rw [e]))).trans (h.block k hk hne)⟩
theorem Only.below {w w2 : World} {g B : Nat} (h : Only w w2 g) (hB : B ≤ g) (hs : B ≤ w.heap.size) : Below B w w2 :=
  ⟨h.os, h.tape, h.output, h.size, fun k hk => h.block k (by omega) (fun e => by injection e with e; omega)⟩

def Swapped (w : World) (g : Nat) (ps : List Nat) (i j : Nat) (e : Ending) (w2 : World) : Prop :=
  e = .returned (.tuple #[]) ∧ Blk w2 g 80 (cellsOf ((ps.set i (ps.getD j 0)).set j (ps.getD i 0))) ∧ Only w w2 g

set_option maxRecDepth 100000 in
set_option maxHeartbeats 4000000 in
theorem swap (w : World) (g n c : Nat) (ps : List Nat) (i j : Nat) (h : Blk w g 80 (cellsOf ps)) (hl : ps.length = n) (hi : i < n) (hj : j < n) (hn : n ≤ 65536) :
    Calls Try.prog 37 #[.slice (some ⟨g, 0, none⟩) n c, .int .i64 (i : Int), .int .i64 (j : Int)] w (Swapped w g ps i j) := by
  obtain ⟨a0, a1, a2⟩ := cellsOf_at ps i (by omega)
  obtain ⟨b0, b1, b2⟩ := cellsOf_at ps j (by omega)
  have c0 : w.cell? ⟨g, i * 3, none⟩ = some (.string ⟨#[]⟩) := by rw [h.cell]; exact a0
  have c1 : w.cell? ⟨g, i * 3 + 1, none⟩ = some (.int .i32 ((ps.getD i 0 : Nat) : Int)) := by rw [h.cell]; exact a1
  have c2 : w.cell? ⟨g, i * 3 + 2, none⟩ = some (.int .u8 ((ps.getD i 0 % 256 : Nat) : Int)) := by rw [h.cell]; exact a2
  have d0 : w.cell? ⟨g, j * 3, none⟩ = some (.string ⟨#[]⟩) := by rw [h.cell]; exact b0
  have d1 : w.cell? ⟨g, j * 3 + 1, none⟩ = some (.int .i32 ((ps.getD j 0 : Nat) : Int)) := by rw [h.cell]; exact b1
  have d2 : w.cell? ⟨g, j * 3 + 2, none⟩ = some (.int .u8 ((ps.getD j 0 % 256 : Nat) : Int)) := by rw [h.cell]; exact b2
  have i1 : (i : Int) < (n : Int) := by omega
  have i2 : (j : Int) < (n : Int) := by omega
  have i3 : (0 : Int) ≤ (i : Int) := by omega
  have i4 : (0 : Int) ≤ (j : Int) := by omega
  have fz := fun k => h.free k
  have f0 := fz (i * 3)
  have f1 := fz (i * 3 + 1)
  have f2 := fz (i * 3 + 2)
  have g0 := fz (j * 3)
  have g1 := fz (j * 3 + 1)
  have g2 := fz (j * 3 + 2)
  have HB := Lib.hid h
  have HL := Lib.hid hl
  clear h hl a0 a1 a2 b0 b1 b2 fz
  by_cases hij : i = j
  · subst hij
    have HT := Lib.hid (cellsOf_set ps i (ps.getD i 0) (by rw [HL.out]; omega))
    have HSS := Lib.hid (show (ps.set i (ps.getD i 0)).set i (ps.getD i 0) = (ps.set i (ps.getD i 0)) by simp)
    have HFIN : Hid ((ps.set i (ps.getD i 0)) = ps) := by
      apply List.ext_getElem?
      intro q
      by_cases hq : i = q
      · subst hq
        rw [List.getElem?_set_self (by rw [HL.out]; omega)]
        simp [HL.out, hi]
      · rw [List.getElem?_set_ne hq]
    generalize hpi : ps.getD i 0 = pi at *
    have HPI := Lib.hid hpi
    clear hpi
    generalize ((pi : Nat) : Int) = vi at *
    generalize ((pi % 256 : Nat) : Int) = ui at *
    go_enter Try.func37, Try.ntmps37
    go_wp2
    go_region
    all_goals go_end0
    all_goals
      refine ⟨rfl, ?_, ?_⟩
      · rw [HPI.out, HSS.out, HFIN.out]
        have h1 := ((((((HB.out.set (i * 3) (.string ⟨#[]⟩)).set (i * 3 + 1) (.int .i32 vi)).set (i * 3 + 2) (.int .u8 ui)).set (i * 3) (.string ⟨#[]⟩)).set (i * 3 + 1) (.int .i32 vi)).set (i * 3 + 2) (.int .u8 ui))
        have h2 := HT.out
        rw [HFIN.out] at h2
        rw [h2, h2] at h1
        exact h1.drew
      · exact (((((((Only.refl w g).set _ _).set _ _).set _ _).set _ _).set _ _).set _ _).drew
  · have n1 : i * 3 ≠ j * 3 := by omega
    have HT1 := Lib.hid (cellsOf_set ps i (ps.getD j 0) (by rw [HL.out]; omega))
    have HT2 := Lib.hid (cellsOf_set (ps.set i (ps.getD j 0)) j (ps.getD i 0) (by simp; rw [HL.out]; omega))
    generalize hpi : ps.getD i 0 = pi at *
    generalize hpj : ps.getD j 0 = pj at *
    have HPI := Lib.hid hpi
    have HPJ := Lib.hid hpj
    clear hpi hpj
    generalize ((pi : Nat) : Int) = vi at *
    generalize ((pi % 256 : Nat) : Int) = ui at *
    generalize ((pj : Nat) : Int) = vj at *
    generalize ((pj % 256 : Nat) : Int) = uj at *
    go_enter Try.func37, Try.ntmps37
    go_wp2
    go_region
    all_goals go_end0
    all_goals
      refine ⟨rfl, ?_, ?_⟩
      · have h1 := ((((((HB.out.set (i * 3) (.string ⟨#[]⟩)).set (i * 3 + 1) (.int .i32 vj)).set (i * 3 + 2) (.int .u8 uj)).set (j * 3) (.string ⟨#[]⟩)).set (j * 3 + 1) (.int .i32 vi)).set (j * 3 + 2) (.int .u8 ui))
        rw [HT1.out, HT2.out] at h1
        rw [HPI.out, HPJ.out]
        exact h1.drew
      · exact (((((((Only.refl w g).set _ _).set _ _).set _ _).set _ _).set _ _).set _ _).drew
end Go.Proofs.Ytmpiepanajhfdaa.swap
