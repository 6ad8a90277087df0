/-
  strBytes, icwBytes over this seat's program: they hand back some number and leave the world alone.
  Conditions: the lists are readable and at most 2^20 long.
-/
import Derived.Test.YtdnpdfiiajjcnaaIe
namespace Go.Proofs.Ytdnpdfiiajjcnaa.ic
open Go.ChangeShapes Go.WideShapes Go.ChangeAt Go.RowKit
open kit

def SomeI (w : World) (e : Ending) (w' : World) : Prop := (∃ y : Int, e = .returned (.int .i64 y)) ∧ w = w'
def T9 (n : Nat) (t0 t5 : Value) : Prop := ∃ (k : Nat) (x : Int), k ≤ n ∧ t5 = .int .i64 (k : Int) ∧ t0 = .int .i64 x
set_option maxRecDepth 100000 in
set_option maxHeartbeats 4000000 in
theorem strBytes (w : World) (x : Int) (a : Option Addr) (n c : Nat) (ss : List ByteArray) (h : Row w a n c (ss.map Value.string)) (hn : n ≤ 1048576) : Calls Try.prog 9 #[.int .i64 x, .slice a n c] w (SomeI w) := by
  have HR := Lib.hid h
  clear h
  go_enter Try.func9, Try.ntmps9
  go_wp2_with fail
  · go_ret
    exact ⟨⟨_, rfl⟩, rfl⟩
  · go_loop [0, 5] (fun t0 t5 => T9 n t0 t5) (fun _ t5 => n - (intOf t5).toNat)
    case atStart => exact ⟨0, _, Nat.zero_le _, rfl, rfl⟩
    case round =>
      obtain ⟨k, y, hk, rfl, rfl⟩ := hrel
      by_cases hlt : k < n
      · obtain ⟨b, off, rfl, _, hc⟩ := HR.out.at_ ByteArray.empty hlt
        have k0 : (k : Int) < (n : Int) := by omega
        have hcap := HR.out.2.1
        have hcap2 : c ≤ 9223372036854775807 := by have := HR.out.2.2.1; unfold maxLen at this; exact this
        generalize ss.getD k ByteArray.empty = s at *
        go_wp2_with fail
        · go_ret
          exact ⟨⟨_, rfl⟩, rfl⟩
        · go_round
          case rel => exact ⟨k + 1, _, by omega, by go_num, rfl⟩
          case measure => simp [intOf]; omega
      · obtain rfl : k = n := by omega
        go_wp2_with fail
        go_ret
        exact ⟨⟨_, rfl⟩, rfl⟩
def T5 (w0 : World) (n : Nat) (t3 t4 : Value) (W : World) : Prop := ∃ (k : Nat) (x : Int), k ≤ n ∧ t4 = .int .i64 (k : Int) ∧ t3 = .int .i64 x ∧ W = w0
theorem IcsC.at_ {w : World} {F : Ct} {a : Option Addr} {m c : Nat} (h : IcsC w (.slice a m c) F) {k : Nat} (hk : k < F.length) : ∃ b off, a = some ⟨b, off, none⟩ ∧ b < w.heap.size ∧ IcC w b (off + k * 4) (at_ F k) := Sl.at_ h hk
set_option maxRecDepth 100000 in
set_option maxHeartbeats 4000000 in
theorem icwBytes (w : World) (a : Option Addr) (n c : Nat) (F : Ct) (h : IcsC w (.slice a n c) F) (hF : F.length = n) (hn : n ≤ 1048576) (hl : Lens F 1048576 n) : Calls Try.prog 5 #[.slice a n c] w (SomeI w) := by
  have HR := Lib.hid h
  have HL := Lib.hid hl
  have HN := Lib.hid hF
  obtain ⟨a', c', e, hc1, hc2, _⟩ := Sl.len h
  injection e with e1 e2 e3
  subst e1 e3
  clear h hl hF e2
  go_enter Try.func5, Try.ntmps5
  go_wp2_with fail
  · go_ret
    exact ⟨⟨_, rfl⟩, rfl⟩
  · go_loopw [3, 4] (fun t3 t4 W => T5 w n t3 t4 W) (fun _ t4 _ => n - (intOf t4).toNat)
    case atStart => exact ⟨0, _, Nat.zero_le _, rfl, rfl, rfl⟩
    case round =>
      obtain ⟨k, y, hk, rfl, rfl, rfl⟩ := hrel
      by_cases hlt : k < n
      · obtain ⟨b, off, rfl, _, a1, c1, a2, c2, a3, c3, a4, c4, x1, x2, x3, x4, r1, r2, r3, r4, _⟩ := HR.out.at_ (by rw [HN.out]; exact hlt)
        obtain ⟨l1, l2, l3, l4⟩ := HL.out k hlt
        have R1 := Lib.hid (fun x => strBytes wr x _ _ _ _ r1 l1)
        have R3 := Lib.hid (fun x => strBytes wr x _ _ _ _ r3 l3)
        have k0 : (k : Int) < (n : Int) := by omega
        clear r1 r2 r3 r4
        go_wp2_with fail
        refine (R1.out _).mono ?_
        rintro e w1 ⟨⟨y1, rfl⟩, rfl⟩
        go_wp2_with fail
        · go_ret
          exact ⟨⟨_, rfl⟩, rfl⟩
        · refine (R3.out _).mono ?_
          rintro e w1 ⟨⟨y2, rfl⟩, rfl⟩
          go_wp2_with fail
          · go_ret
            exact ⟨⟨_, rfl⟩, rfl⟩
          · go_ret
            exact ⟨⟨_, rfl⟩, rfl⟩
          · go_ret
            exact ⟨⟨_, rfl⟩, rfl⟩
          · go_roundw
            case rel => exact ⟨k + 1, _, by omega, by go_num, rfl, rfl⟩
            case measure => simp [intOf]; omega
      · obtain rfl : k = n := by omega
        go_wp2_with fail
        go_ret
        exact ⟨⟨_, rfl⟩, rfl⟩
end Go.Proofs.Ytdnpdfiiajjcnaa.ic
