/-
  Cloning a token list: none, or one without children that is no URL: some list comes back, no import record is added.
  Conditions: the token is readable.
-/
import Derived.Test.YtimllpocefbcbaaWc
import Derived.Deep.MidRow
import Derived.LoopTactic
import Derived.Outline
import Derived.IntWalk
import Derived.Deep.QuietTactic
import Derived.BigQuiet
import Derived.Deep.RegionHeld3
import Derived.Deep.DeepCutAuto
import Derived.RegionTactic
import Derived.OwnWalk
import Derived.Deep.OwnRows
import Derived.Lib.LazyBuf
namespace Go.Proofs.Ytimllpocefbcbaa.wr
open Go.ChangeShapes Go.WideShapes Go.ChangeAt Go.RowKit
open kit

def Cl (w : World) (e : Ending) (w' : World) : Prop := (∃ a n c, e = .returned (.tuple #[.slice a n c, .slice none 0 0])) ∧ Kept w w'
theorem info54 : (Try.prog.info? 54).map (fun i => (i.size, i.bytes, i.zero.map (·.cells.size))) = some (7, 40, some 7) := by kernel_rfl
theorem infoN {E : TypeId} {size bytes : Nat} (hinfo : (Try.prog.info? E).map (fun i => (i.size, i.bytes, i.zero.map (·.cells.size))) = some (size, bytes, some size)) : ∃ i z, Try.prog.info? E = some i ∧ i.zero = some z ∧ i.size = size ∧ i.bytes = bytes ∧ z.cells.size = size := by
  obtain ⟨i, hi, hzz⟩ := Option.map_eq_some_iff.1 hinfo
  simp only [Prod.mk.injEq] at hzz
  obtain ⟨hs, hby, hz⟩ := hzz
  obtain ⟨z, hz0, hzs⟩ := Option.map_eq_some_iff.1 hz
  exact ⟨i, z, hi, hz0, hs, hby, hzs⟩
theorem mk47 (n : Nat) (hn : n ≤ 1) : ∃ C : Array Value, C.size = n * 7 ∧ ∀ w : World, (Instr.makeSlice 47 (.int .i64 0) (.int .i64 (n : Int))).run Try.prog w = .ok (.slice (some ⟨w.heap.size, 0, none⟩) 0 n) (w.alloc (.cells C 54)) := by
  obtain ⟨i, hi, hzz⟩ := Option.map_eq_some_iff.1 info54
  simp only [Prod.mk.injEq] at hzz
  obtain ⟨hs, hby, hz⟩ := hzz
  obtain ⟨z, hz0, hzs⟩ := Option.map_eq_some_iff.1 hz
  refine ⟨madeCells z.cells (n * 7), size_madeCells _ _, fun w => ?_⟩
  have hb : (i.bytes : Int) * (n : Int) ≤ 281474976710656 := by
    have h : ((i.bytes * n : Nat) : Int) ≤ 281474976710656 := by rw [hby]; omega
    rwa [Int.natCast_mul] at h
  have hr := run_make (P := Try.prog) w 47 54 i z Try.underlying47 hi hz0 .i64 .i64 0 n (Int.le_refl _) (by omega) hb (by omega)
  simp only [Int.toNat_zero, Int.toNat_natCast, hs] at hr
  exact hr
set_option maxRecDepth 100000 in
set_option maxHeartbeats 4000000 in
theorem clone0 (w : World) (a : Option Addr) (c : Nat) (v1 : Value) (hc : c ≤ 9223372036854775807) : Calls Try.prog 14 #[.slice a 0 c, v1, .slice none 0 0, .slice none 0 0] w (Cl w) := by
  obtain ⟨C, _, m1⟩ := mk47 0 (by omega)
  simp only [Int.ofNat_zero, Int.natCast_zero] at m1
  have heq := fun w : World => Go.run_eql_slice_nil (P := Try.prog) w 47 54 none 0 0 Try.underlying47
  simp only [Option.isNone] at heq
  go_enter Try.func14, Try.ntmps14
  go_wp2_with fail
  obtain ⟨wk, hwk⟩ : ∃ wk : World, wk = w.alloc (.cells C 54) := ⟨_, rfl⟩
  have KA : Hid (Kept w wk) := Lib.hid (by rw [hwk]; exact (Kept.refl w).alloc _)
  rw [← hwk]
  clear hwk m1 heq
  go_loopw [2, 3, 21] (fun t2 t3 t21 W => (∃ a n c, t2 = .slice a n c) ∧ t3 = .slice none 0 0 ∧ t21 = .int .i64 0 ∧ W = wk) (fun _ _ _ _ => 0)
  case atStart => exact ⟨⟨_, _, _, rfl⟩, rfl, rfl, rfl⟩
  case round =>
    obtain ⟨⟨ax, nx, cx, rfl⟩, rfl, rfl, rfl⟩ := hrel
    go_wp2_with fail
    go_ret2
    exact ⟨⟨_, _, _, rfl⟩, KA.out⟩
/-- the token of an @supports wrapper -/
def TkP (w : World) (b : Nat) : Prop := w.cell? ⟨b, 0, none⟩ = some (.pointer none) ∧ w.cell? ⟨b, 1, none⟩ = some (.string ⟨#[40]⟩) ∧ w.cell? ⟨b, 2, none⟩ = some (.int .i32 0) ∧ w.cell? ⟨b, 3, none⟩ = some (.int .u32 0) ∧ w.cell? ⟨b, 4, none⟩ = some (.int .u16 0) ∧ w.cell? ⟨b, 5, none⟩ = some (.int .u8 33) ∧ w.cell? ⟨b, 6, none⟩ = some (.int .u8 0)
def T14 (w wk : World) (q : Nat) (t2 t3 t21 : Value) (W : World) : Prop := t3 = .slice none 0 0 ∧ ((t21 = .int .i64 0 ∧ t2 = .slice (some ⟨q, 0, none⟩) 0 1 ∧ W = wk) ∨ (t21 = .int .i64 1 ∧ (∃ a c, t2 = .slice a 1 c) ∧ Kept w W))
set_option maxRecDepth 100000 in
set_option maxHeartbeats 4000000 in
theorem clone1 (w : World) (b : Nat) (v1 : Value) (hb : b < w.heap.size) (ht : TkP w b) : Calls Try.prog 14 #[.slice (some ⟨b, 0, none⟩) 1 1, v1, .slice none 0 0, .slice none 0 0] w (Cl w) := by
  obtain ⟨C, hC, m1⟩ := mk47 1 (by omega)
  simp only [Int.ofNat_one, Int.natCast_one] at m1
  have heq := fun w : World => Go.run_eql_slice_nil (P := Try.prog) w 47 54 none 0 0 Try.underlying47
  simp only [Option.isNone] at heq
  have HT := Lib.hid ht
  clear ht
  obtain ⟨i0, z0, hi, hz0, hz1, hz2, hz3⟩ := infoN info54
  go_enter Try.func14, Try.ntmps14
  go_wp2_with fail
  obtain ⟨wk, hwk⟩ : ∃ wk : World, wk = w.alloc (.cells C 54) := ⟨_, rfl⟩
  have KA : Hid (Kept w wk) := Lib.hid (by rw [hwk]; exact (Kept.refl w).alloc _)
  have HB : Hid (Blk wk w.heap.size 54 C.toList) := Lib.hid (by rw [hwk]; have := Blk.new w 54 C.toList; simpa using this)
  rw [← hwk]
  clear hwk m1 heq
  go_loopw [2, 3, 21] (fun t2 t3 t21 W => T14 w wk w.heap.size t2 t3 t21 W) (fun _ _ t21 _ => 1 - (intOf t21).toNat)
  case atStart => exact ⟨rfl, .inl ⟨rfl, rfl, rfl⟩⟩
  case round =>
    obtain ⟨rfl, ⟨rfl, rfl, rfl⟩ | ⟨rfl, ⟨ax, cx, rfl⟩, hk⟩⟩ := hrel
    · obtain ⟨x0, x1, x2, x3, x4, x5, x6⟩ := HT.out
      have x0 := KA.out.cell x0
      have x1 := KA.out.cell x1
      have x2 := KA.out.cell x2
      have x3 := KA.out.cell x3
      have x4 := KA.out.cell x4
      have x5 := KA.out.cell x5
      have x6 := KA.out.cell x6
      obtain ⟨w1, rfl⟩ : ∃ w1 : World, w1 = wr := ⟨_, rfl⟩
      go_upto_region 6 with fail
      have KX := Lib.hid (KA.out.alloc (.cells #[.pointer none, .string ⟨#[40]⟩, .int .i32 0, .int .u32 0, .int .u16 0, .int .u8 33, .int .u8 0] 54))
      have HX : Hid (Blk (w1.alloc (.cells #[.pointer none, .string ⟨#[40]⟩, .int .i32 0, .int .u32 0, .int .u16 0, .int .u8 33, .int .u8 0] 54)) w1.heap.size 54 [.pointer none, .string ⟨#[40]⟩, .int .i32 0, .int .u32 0, .int .u16 0, .int .u8 33, .int .u8 0]) := Lib.hid (Blk.new w1 54 _)
      have HB3 := Lib.hid (HB.out.alloc (.cells #[.pointer none, .string ⟨#[40]⟩, .int .i32 0, .int .u32 0, .int .u16 0, .int .u8 33, .int .u8 0] 54))
      have HL := Lib.hid HB.out.lt
      have HWQ := Lib.hid KA.out.size
      generalize w1.alloc (.cells #[.pointer none, .string ⟨#[40]⟩, .int .i32 0, .int .u32 0, .int .u16 0, .int .u8 33, .int .u8 0] 54) = w3 at *
      generalize w1.heap.size = q at *
      clear x0 x1 x2 x3 x4 x5 x6
      have y0 : w3.cell? ⟨q, 0, none⟩ = some (.pointer none) := HX.out.cell 0
      have y2 : w3.cell? ⟨q, 2, none⟩ = some (.int .i32 0) := HX.out.cell 2
      have y5 : w3.cell? ⟨q, 5, none⟩ = some (.int .u8 33) := HX.out.cell 5
      have y2f := HX.out.free 2
      go_upto_region 15 with fail
      clear y0 y2 y5 y2f
      have KY := Lib.hid (KX.out.setCell (p := ⟨q, 2, none⟩) HWQ.out (.int .i32 0))
      have HY := Lib.hid (HX.out.set 2 (.int .i32 0))
      have HB4 := Lib.hid (HB3.out.far (p := ⟨q, 2, none⟩) (Nat.ne_of_lt HL.out) (.int .i32 0))
      generalize w3.setCell ⟨q, 2, none⟩ (.int .i32 0) = w4 at *
      have o4 : w4.ownsRow w.heap.size 54 7 (.slice (some ⟨w.heap.size, 0, none⟩) 0 1) 0 [] := ⟨rfl, Or.inr ⟨w.heap.size, 1, C, rfl, Nat.le_refl _, (by have := HB4.out; rw [Blk] at this; simpa using this), by omega, by unfold maxLen; omega, hC, by simp⟩⟩
      have y0 : w4.cell? ⟨q, 0, none⟩ = some (.pointer none) := HY.out.cell 0
      have y1 : w4.cell? ⟨q, 1, none⟩ = some (.string ⟨#[40]⟩) := HY.out.cell 1
      have y2 : w4.cell? ⟨q, 2, none⟩ = some (.int .i32 0) := HY.out.cell 2
      have y3 : w4.cell? ⟨q, 3, none⟩ = some (.int .u32 0) := HY.out.cell 3
      have y4 : w4.cell? ⟨q, 4, none⟩ = some (.int .u16 0) := HY.out.cell 4
      have y5 : w4.cell? ⟨q, 5, none⟩ = some (.int .u8 33) := HY.out.cell 5
      have y6 : w4.cell? ⟨q, 6, none⟩ = some (.int .u8 0) := HY.out.cell 6
      have HS4 := Lib.hid KY.out.size
      clear HB HB3 HX KX HL HWQ
      go_wp2_with (at_builtin; refine wpList_append_own_at (P := Try.prog) (w := _) rfl _ _ 47 rfl w.heap.size 54 i0 z0 7 40 Try.underlying47 hi hz0 hz1 hz2 hz3 (by decide) _ _ _ rfl (o4.alloc _) ⟨w4.heap.size, 0, none⟩ 1 1 [.pointer none, .string ⟨#[40]⟩, .int .i32 0, .int .u32 0, .int .u16 0, .int .u8 33, .int .u8 0] rfl rfl (newsOf w4 _ 54) (by simp [Value.oneCell']) (by unfold maxLen; omega) (by omega) (by have := HS4.out; simp; omega) ?_; intro v9 w9 hown9 hg9 _ hat9)
      exact ⟨⟨rfl, .inr ⟨rfl, own_shape hown9, keptGrown (KY.out.alloc _) hg9 (fun k hk => by injection hk with hk; exact Nat.le_of_eq hk)⟩⟩, by simp [intOf]⟩
    · have HK := Lib.hid hk
      clear hk
      go_wp2_with fail
      go_ret2
      exact ⟨⟨_, _, _, rfl⟩, HK.out⟩
end Go.Proofs.Ytimllpocefbcbaa.wr
