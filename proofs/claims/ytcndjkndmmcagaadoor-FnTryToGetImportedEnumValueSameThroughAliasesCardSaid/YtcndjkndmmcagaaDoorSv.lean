/-
  The law's comparison of two values of an enum's table over this seat's program: a value compared with itself.
  Conditions: the value's code units are readable.
-/
import Derived.Test.YtcndjkndmmcagaaDoorSl
import Derived.LoopTactic
import Derived.Outline
import Derived.Deep.QuietTactic
import Derived.BigQuiet
import Derived.OwnWalk
import Derived.Deep.OwnRows
import Derived.Lib.LazyBuf
import Derived.Deep.DeepCutAuto
import Derived.Laws.Cover2
import Derived.Laws.FloatArith
namespace Go.Proofs.YtcndjkndmmcagaaDoor.mp
open Go.ChangeShapes Go.WideShapes Go.ChangeAt Go.RowKit
open kit

def SameW (w : World) (e : Ending) (w' : World) : Prop := e = .returned (.bool true) ∧ Kept w w'
def S22 (n : Nat) (w : World) (t : Value) (wr : World) : Prop := ∃ k : Nat, k ≤ n ∧ t = .int .i64 (k : Int) ∧ Kept w wr
set_option maxRecDepth 100000 in
set_option maxHeartbeats 4000000 in
theorem sameU (a : Option Addr) (n c : Nat) (zs : List Int) (w : World) (h : Row w a n c (zs.map (Value.int .u16))) : Calls Tryd.prog 22 #[.slice a n c, .slice a n c] w (SameW w) := by
  have hn : n ≤ 9223372036854775807 := by have := h.2.1; have := h.2.2.1; unfold maxLen at this; omega
  have HR := Lib.hid (Ints.of_row h)
  have heq := fun w : World => Go.run_eql_slice_nil (P := Tryd.prog) w 43 60 a n c Tryd.underlying43
  clear h
  have en : (a.isNone != a.isNone) = false := by simp
  go_enter Tryd.func22, Tryd.ntmps22
  go_wp2_with fail
  go_loopw [5] (fun t wr => S22 n w t wr) (fun t _ => n - (intOf t).toNat)
  case atStart => exact ⟨0, by omega, rfl, Kept.refl _⟩
  case round =>
    obtain ⟨k, hk, rfl, hK⟩ := hrel
    have HK := Lib.hid hK
    clear hK
    by_cases hlt : k < n
    · obtain ⟨b, off, rfl, hb, hc⟩ := HR.out.2 (by omega)
      have x0 := HK.out.cell (hc k hlt)
      have hki : (k : Int) < (n : Int) := by omega
      have HRR : Hid (∀ m, S22 n w (.int .i64 ((k : Int) + 1)) (wr.drewN m)) := Lib.hid (fun m => ⟨k + 1, by omega, by go_num, HK.out.drewN m⟩)
      clear hc
      generalize zs.getD k (-1) = z at *
      have e1 : (z != z) = false := by simp
      go_upto_region 6 with fail
      go_quiet (fail)
      go_wp2_with fail
      go_roundw
      case rel => first | exact HRR.out _ | ((repeat apply Exists.intro); exact ⟨HRR.out _, rfl⟩)
      case measure => simp [intOf]; omega
    · obtain rfl : k = n := by omega
      go_wp2_with fail
      go_ret
      exact ⟨rfl, HK.out⟩

theorem quoOk {x : Nat} (h : (FloatKind.f64.format.order x 0 == some .eq) = true) : ∃ y, floatBits .quo .f64 4607182418800017408 x = some y := by
  have h2 : FloatKind.f64.format.order x 0 = some .eq := by simpa using h
  unfold Ieee.Format.order at h2
  have h3 : ∃ m i, FloatKind.f64.format.read 4607182418800017408 = .number false m i ∧ m ≠ 0 := ⟨_, _, rfl, by decide⟩
  obtain ⟨m, i, e1, hm⟩ := h3
  unfold floatBits Ieee.Format.div
  simp only
  rw [e1]
  revert h2
  cases FloatKind.f64.format.read x with
  | nan s f => intro h2; simp [Ieee.Datum.order] at h2
  | infinity s => intro _; simp [Ieee.Datum.quotient]
  | number s k j =>
    intro _
    unfold Ieee.Datum.quotient
    by_cases c : k = 0 <;> simp [c, hm]
set_option maxRecDepth 100000 in
set_option maxHeartbeats 4000000 in
theorem sameF (x : Nat) (w : World) : Calls Tryd.prog 23 #[.float .f64 x, .float .f64 x] w fun e w' => e = .returned (.bool true) ∧ w = w' := by
  cases h1 : (FloatKind.f64.format.order x x != some .eq)
  · cases h2 : (FloatKind.f64.format.order x 0 == some .eq)
    · go_enter Tryd.func23, Tryd.ntmps23
      go_wp2_with fail
      go_ret
      exact ⟨rfl, rfl⟩
    · obtain ⟨y, hy⟩ := quoOk h2
      have hq := fun W : World => run_float_arith (P := Tryd.prog) W .quo 44 .f64 4607182418800017408 x y hy
      clear hy
      go_enter Tryd.func23, Tryd.ntmps23
      go_wp2_with fail
      go_ret
      exact ⟨by simp, rfl⟩
  · go_enter Tryd.func23, Tryd.ntmps23
    go_wp2_with fail
    go_ret
    exact ⟨rfl, rfl⟩

/-- a value of the table -/
def Good (w : World) (v : Value) : Prop := ∃ a n c zs x, v = .agg #[.slice a n c, .float .f64 x] ∧ Row w a n c ((zs : List Int).map (Value.int .u16))
theorem Good.kept {w w2 : World} {v : Value} (h : Good w v) (k : Kept w w2) : Good w2 v := by
  obtain ⟨a, n, c, zs, x, e, hr⟩ := h
  exact ⟨a, n, c, zs, x, e, hr.kept k⟩
theorem Good.zero (w : World) : Good w (.agg #[.slice none 0 0, .float .f64 0]) := ⟨none, 0, 0, [], 0, rfl, Row.nil w⟩
set_option maxRecDepth 100000 in
set_option maxHeartbeats 4000000 in
theorem sameV (v : Value) (w : World) (h : Good w v) : Calls Tryd.prog 17 #[v, v] w (SameW w) := by
  obtain ⟨a, n, c, zs, x, rfl, hr⟩ := h
  have HR := Lib.hid (fun (W : World) (k : Kept w W) => sameU a n c zs W (hr.kept k))
  clear hr
  go_enter Tryd.func17, Tryd.ntmps17
  go_wp2_with fail
  refine (HR.out _ (((Kept.refl w).alloc _).alloc _)).mono ?_
  rintro e w1 ⟨rfl, k1⟩
  have kk := Lib.hid ((((Kept.refl w).alloc _).alloc _).trans k1)
  have x0 : w1.cell? ⟨w.heap.size, 1, none⟩ = some (.float .f64 x) := by
    refine k1.cell ?_
    exact ((Blk.new w 46 [.slice a n c, .float .f64 x]).alloc _).cell 1
  have x1 : w1.cell? ⟨w.heap.size + 1, 1, none⟩ = some (.float .f64 x) := by
    refine k1.cell ?_
    have := Blk.new (w.alloc (.cells #[.slice a n c, .float .f64 x] 46)) 46 [.slice a n c, .float .f64 x]
    simp at this
    exact this.cell 1
  clear k1
  go_wp2_with fail
  refine (sameF x w1).mono ?_
  rintro e w2 ⟨rfl, rfl⟩
  go_wp2_with fail
  go_ret
  exact ⟨rfl, kk.out⟩
end Go.Proofs.YtcndjkndmmcagaaDoor.mp
