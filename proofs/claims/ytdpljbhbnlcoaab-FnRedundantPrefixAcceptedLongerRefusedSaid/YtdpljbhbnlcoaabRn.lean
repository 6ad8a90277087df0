/-
  zzName over this seat's program: the name of a byte.
  Conditions: none.
-/
import Derived.Test.YtdpljbhbnlcoaabBlk
import Derived.RegionTactic
import Derived.Outline
import Derived.Laws.BitsAllLaws
import Derived.Laws.BytesArg
namespace Go.Proofs.Ytdpljbhbnlcoaab.rd
open Go.ChangeShapes Go.WideShapes Go.ChangeAt Go.RowKit
open kit

theorem and15 (x : Nat) (hx : x ≤ 65535) : bits .and .u16 (x : Int) 15 = ((x % 16 : Nat) : Int) := by
  have e := u16_and_nat x 15 (by omega) (by omega)
  rw [nat_mask4] at e
  exact e
theorem and255 (x : Nat) (hx : x ≤ 65535) : bits .and .u16 (x : Int) 255 = ((x % 256 : Nat) : Int) := by
  have e := u16_and_nat x 255 (by omega) (by omega)
  rw [nat_mask8] at e
  exact e
set_option maxRecDepth 100000 in
theorem hexAt (i : Nat) (hi : i < 16) : ∃ x : Nat, x < 256 ∧ ∀ W : World, (Instr.index 9 (.string ⟨#[48, 49, 50, 51, 52, 53, 54, 55, 56, 57, 97, 98, 99, 100, 101, 102]⟩) (.int .u16 (i : Int))).run Try.prog W = .ok (.int .u8 (x : Int)) W := by
  refine ⟨((⟨#[48, 49, 50, 51, 52, 53, 54, 55, 56, 57, 97, 98, 99, 100, 101, 102]⟩ : ByteArray).data.getD i 0).toNat, UInt8.toNat_lt _, fun W => ?_⟩
  have : i = 0 ∨ i = 1 ∨ i = 2 ∨ i = 3 ∨ i = 4 ∨ i = 5 ∨ i = 6 ∨ i = 7 ∨ i = 8 ∨ i = 9 ∨ i = 10 ∨ i = 11 ∨ i = 12 ∨ i = 13 ∨ i = 14 ∨ i = 15 := by omega
  rcases this with rfl | rfl | rfl | rfl | rfl | rfl | rfl | rfl | rfl | rfl | rfl | rfl | rfl | rfl | rfl | rfl <;> rfl

set_option maxRecDepth 100000 in
set_option maxHeartbeats 4000000 in
theorem nameEx (b : Nat) (hb : b ≤ 255) : ∃ s : ByteArray, ∀ w : World, Calls Try.prog 10 #[.int .u16 (b : Int)] w fun e w' => e = .returned (.string s) ∧ Kept w w' := by
  have e1 := and15 b (by omega)
  have e2 := and15 (b / 16) (by omega)
  obtain ⟨x1, hx1, i1⟩ := hexAt (b % 16) (by omega)
  obtain ⟨x2, hx2, i2⟩ := hexAt (b / 16 % 16) (by omega)
  refine ⟨strOfNums [110, (x2 : Int), (x1 : Int)], fun w => ?_⟩
  have e0 : ((b / 16 : Nat) : Int) = (b : Int) / 16 := by omega
  rw [e0] at e2
  rw [show ((b % 16 : Nat) : Int) = (b : Int) % 16 by omega] at i1 e1
  rw [show ((b / 16 % 16 : Nat) : Int) = (b : Int) / 16 % 16 by omega] at i2 e2
  have hcv := run_convert_bytes_arg (P := Try.prog) (w := (w.alloc (.cells #[.int .u8 110, .int .u8 (x2 : Int), .int .u8 (x1 : Int)] 5)).drew) 46 5 Try.underlying46 Try.underlying5 w.heap.size 0 3 3 [110, (x2 : Int), (x1 : Int)] rfl (fun i hi => by
    have hB := (Blk.new w 5 [.int .u8 110, .int .u8 (x2 : Int), .int .u8 (x1 : Int)]).drew.cell (0 + i)
    have : i = 0 ∨ i = 1 ∨ i = 2 := by omega
    rcases this with rfl | rfl | rfl <;> exact hB) 9 Try.underlying9
  have HS : Hid (strOfNums [110, (x2 : Int), (x1 : Int)] = strOfNums [110, (x2 : Int), (x1 : Int)]) := Lib.hid rfl
  generalize strOfNums [110, (x2 : Int), (x1 : Int)] = sv at *
  go_enter Try.func10, Try.ntmps10
  go_wp2_with fail
  go_region
  go_wp2_with fail
  go_ret
  exact ⟨rfl, ((Kept.refl w).alloc _).drew⟩
noncomputable def nm (b : Nat) : ByteArray := by
  classical exact if h : b ≤ 255 then (nameEx b h).choose else ByteArray.empty
theorem nameC (b : Nat) (hb : b ≤ 255) (w : World) : Calls Try.prog 10 #[.int .u16 (b : Int)] w fun e w' => e = .returned (.string (nm b)) ∧ Kept w w' := by
  unfold nm
  rw [dif_pos hb]
  exact (nameEx b hb).choose_spec w
end Go.Proofs.Ytdpljbhbnlcoaab.rd
