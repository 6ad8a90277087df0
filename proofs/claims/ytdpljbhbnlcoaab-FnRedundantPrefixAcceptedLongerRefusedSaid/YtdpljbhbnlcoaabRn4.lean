/-
  Token and condition equality over this seat's program, at equal conditions; the redundancy test on a prefix and on a longer list.
  Conditions: the conditions are of the layer and supports fragment.
-/
import Derived.Test.YtdpljbhbnlcoaabRn3
import Derived.Deep.RegionHeld3
import Derived.Deep.DeepCutAuto
namespace Go.Proofs.Ytdpljbhbnlcoaab.rd
open Go.ChangeShapes Go.WideShapes Go.ChangeAt Go.RowKit
open kit

set_option maxRecDepth 100000 in
set_option maxHeartbeats 4000000 in
theorem tokEq (s : ByteArray) (w : World) : Calls Try.prog 13 #[.agg #[.pointer none, .string s, .int .i32 0, .int .u32 0, .int .u16 0, .int .u8 29, .int .u8 0], .agg #[.pointer none, .string s, .int .i32 0, .int .u32 0, .int .u16 0, .int .u8 29, .int .u8 0]] w fun e w' => e = .returned (.bool true) ∧ Kept w w' := by
  go_enter Try.func13, Try.ntmps13
  go_wp2_with fail
  go_ret
  exact ⟨rfl, ((Kept.refl w).alloc _).alloc _⟩
theorem mediaEq (w : World) : Calls Try.prog 12 #[.slice none 0 0, .slice none 0 0] w fun e w' => e = .returned (.bool true) ∧ w = w' := by
  go_enter Try.func12, Try.ntmps12
  go_wp2
  go_loop [14] (fun t => t = .int .i64 0) (fun _ => 0)
  case atStart => rfl
  case round =>
    obtain rfl := hrel
    go_wp2
    go_ret
    exact ⟨rfl, rfl⟩
def C14 (w : World) (t : Value) (W : World) : Prop := ∃ k : Nat, k ≤ 1 ∧ t = .int .i64 (k : Int) ∧ Hid (Kept w W)
set_option maxRecDepth 100000 in
set_option maxHeartbeats 4000000 in
theorem tokensEq (L L2 : Value) (v : Nat) (w : World) (h1 : Tok w L v) (h2 : Tok w L2 v) : Calls Try.prog 11 #[L, L2] w fun e w' => e = .returned (.bool true) ∧ Kept w w' := by
  rcases h1 with ⟨hv, rfl⟩ | ⟨hv, b1, rfl, hb1⟩
  · rcases h2 with ⟨_, rfl⟩ | ⟨hv2, _⟩
    · go_enter Try.func11, Try.ntmps11
      go_wp2
      go_loop [14] (fun t => t = .int .i64 0) (fun _ => 0)
      case atStart => rfl
      case round =>
        obtain rfl := hrel
        go_wp2
        go_ret
        exact ⟨rfl, Kept.refl _⟩
    · exact absurd hv hv2
  · rcases h2 with ⟨hv2, _⟩ | ⟨_, b2, rfl, hb2⟩
    · exact absurd hv2 hv
    · have HB1 := Lib.hid hb1
      have HB2 := Lib.hid hb2
      have TE := Lib.hid (fun W => tokEq (nm v) W)
      clear hb1 hb2 hv
      go_enter Try.func11, Try.ntmps11
      go_wp2_with fail
      have HS : Hid (C14 w (.int .i64 0) w) := Lib.hid ⟨0, by omega, rfl, Lib.hid (Kept.refl _)⟩
      go_loopw [5, 6, 14] (fun _ _ t14 W => C14 w t14 W) (fun _ _ t14 _ => 1 - (intOf t14).toNat)
      case atStart => exact HS.out
      case round =>
        obtain ⟨k, hk, rfl, HK⟩ := hrel
        clear HS
        by_cases h0 : k = 0
        · subst h0
          have e0 : ((0 : Nat) : Int) = 0 := rfl
          rw [e0]
          have z0 : wr.cell? ⟨b1, 0, none⟩ = some (.pointer none) := HK.out.cell (HB1.out.cell 0)
          have z1 : wr.cell? ⟨b1, 1, none⟩ = some (.string (nm v)) := HK.out.cell (HB1.out.cell 1)
          have z2 : wr.cell? ⟨b1, 2, none⟩ = some (.int .i32 0) := HK.out.cell (HB1.out.cell 2)
          have z3 : wr.cell? ⟨b1, 3, none⟩ = some (.int .u32 0) := HK.out.cell (HB1.out.cell 3)
          have z4 : wr.cell? ⟨b1, 4, none⟩ = some (.int .u16 0) := HK.out.cell (HB1.out.cell 4)
          have z5 : wr.cell? ⟨b1, 5, none⟩ = some (.int .u8 29) := HK.out.cell (HB1.out.cell 5)
          have z6 : wr.cell? ⟨b1, 6, none⟩ = some (.int .u8 0) := HK.out.cell (HB1.out.cell 6)
          go_upto_region 6 with (fail)
          obtain ⟨wb, hwb⟩ : ∃ wb, wb = wr.alloc (.cells #[.pointer none, .string (nm v), .int .i32 0, .int .u32 0, .int .u16 0, .int .u8 29, .int .u8 0] 43) := ⟨_, rfl⟩
          have NB : Hid (Blk wb wr.heap.size 43 [.pointer none, .string (nm v), .int .i32 0, .int .u32 0, .int .u16 0, .int .u8 29, .int .u8 0]) := Lib.hid (by rw [hwb]; exact Blk.new _ _ _)
          have KB : Hid (Kept w wb) := Lib.hid (by rw [hwb]; exact HK.out.alloc _)
          rw [← hwb]
          clear hwb z0 z1 z2 z3 z4 z5 z6
          generalize wr.heap.size = q at *
          have x0 : wb.cell? ⟨q, 0, none⟩ = some (.pointer none) := NB.out.cell 0
          have x1 : wb.cell? ⟨q, 1, none⟩ = some (.string (nm v)) := NB.out.cell 1
          have x2 : wb.cell? ⟨q, 2, none⟩ = some (.int .i32 0) := NB.out.cell 2
          have x3 : wb.cell? ⟨q, 3, none⟩ = some (.int .u32 0) := NB.out.cell 3
          have x4 : wb.cell? ⟨q, 4, none⟩ = some (.int .u16 0) := NB.out.cell 4
          have x5 : wb.cell? ⟨q, 5, none⟩ = some (.int .u8 29) := NB.out.cell 5
          have x6 : wb.cell? ⟨q, 6, none⟩ = some (.int .u8 0) := NB.out.cell 6
          have y0 : wb.cell? ⟨b2, 0, none⟩ = some (.pointer none) := KB.out.cell (HB2.out.cell 0)
          have y1 : wb.cell? ⟨b2, 1, none⟩ = some (.string (nm v)) := KB.out.cell (HB2.out.cell 1)
          have y2 : wb.cell? ⟨b2, 2, none⟩ = some (.int .i32 0) := KB.out.cell (HB2.out.cell 2)
          have y3 : wb.cell? ⟨b2, 3, none⟩ = some (.int .u32 0) := KB.out.cell (HB2.out.cell 3)
          have y4 : wb.cell? ⟨b2, 4, none⟩ = some (.int .u16 0) := KB.out.cell (HB2.out.cell 4)
          have y5 : wb.cell? ⟨b2, 5, none⟩ = some (.int .u8 29) := KB.out.cell (HB2.out.cell 5)
          have y6 : wb.cell? ⟨b2, 6, none⟩ = some (.int .u8 0) := KB.out.cell (HB2.out.cell 6)
          have TE2 := Lib.hid (fun (W : World) (kk : Kept wb W) => (TE.out W).mono (fun e w' (h : e = .returned (.bool true) ∧ Kept W w') => (show e = .returned (.bool true) ∧ Kept wb w' from ⟨h.1, kk.trans h.2⟩)))
          go_region_held3 (fun W => W.cell? ⟨q, 0, none⟩ = some (.pointer none) ∧ W.cell? ⟨q, 1, none⟩ = some (.string (nm v)) ∧ W.cell? ⟨q, 2, none⟩ = some (.int .i32 0) ∧ W.cell? ⟨q, 3, none⟩ = some (.int .u32 0) ∧ W.cell? ⟨q, 4, none⟩ = some (.int .u16 0) ∧ W.cell? ⟨q, 5, none⟩ = some (.int .u8 29) ∧ W.cell? ⟨q, 6, none⟩ = some (.int .u8 0) ∧ W.cell? ⟨b2, 0, none⟩ = some (.pointer none) ∧ W.cell? ⟨b2, 1, none⟩ = some (.string (nm v)) ∧ W.cell? ⟨b2, 2, none⟩ = some (.int .i32 0) ∧ W.cell? ⟨b2, 3, none⟩ = some (.int .u32 0) ∧ W.cell? ⟨b2, 4, none⟩ = some (.int .u16 0) ∧ W.cell? ⟨b2, 5, none⟩ = some (.int .u8 29) ∧ W.cell? ⟨b2, 6, none⟩ = some (.int .u8 0)) (first | exact ⟨hk5.cell x0, hk5.cell x1, hk5.cell x2, hk5.cell x3, hk5.cell x4, hk5.cell x5, hk5.cell x6, hk5.cell y0, hk5.cell y1, hk5.cell y2, hk5.cell y3, hk5.cell y4, hk5.cell y5, hk5.cell y6⟩ | go_keep)
            (first | (go_at_call 13; refine (TE2.out _ ?_).mono ?_; (repeat (first | exact Kept.refl _ | apply Kept.drew)); rintro e w5 ⟨rfl, hk5⟩))
          rename_i hheld
          clear hheld
          have HRR : Hid (C14 w (.int .i64 1) w5) := Lib.hid ⟨1, by omega, rfl, Lib.hid (KB.out.trans hk5)⟩
          go_wp2_with fail
          go_roundw
          case rel => first | exact HRR.out | ((repeat apply Exists.intro); exact ⟨HRR.out, rfl⟩)
          case measure => simp [intOf]
        · obtain rfl : k = 1 := by omega
          have e0 : ((1 : Nat) : Int) = 1 := rfl
          rw [e0]
          go_wp2_with fail
          go_ret
          exact ⟨rfl, HK.out⟩
end Go.Proofs.Ytdpljbhbnlcoaab.rd
