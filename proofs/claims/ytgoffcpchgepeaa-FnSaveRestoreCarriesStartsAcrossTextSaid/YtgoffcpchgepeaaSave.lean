/-
  The contract of saveExprStartFlags over this seat's program, and of the printing and reading wrappers of n011_69.
  Conditions: the output is at most 2^40 bytes long.
-/
import Derived.Test.YtgoffcpchgepeaaStarts
namespace Go.Proofs.Ytgoffcpchgepeaa.save
open Go.ChangeShapes Go.WideShapes Go.ChangeAt Go.RowKit
open kit pr starts

def flagsOf (b0 b1 b2 b3 : Bool) : Int := (if b0 then 1 else 0) + (if b1 then 2 else 0) + (if b2 then 4 else 0) + (if b3 then 8 else 0)
theorem flags_bound (b0 b1 b2 b3 : Bool) : 0 ≤ flagsOf b0 b1 b2 b3 ∧ flagsOf b0 b1 b2 b3 ≤ 255 := by cases b0 <;> cases b1 <;> cases b2 <;> cases b3 <;> decide
theorem flags_bit0 (b0 b1 b2 b3 : Bool) : bit (flagsOf b0 b1 b2 b3) 0 = b0 := by cases b0 <;> cases b1 <;> cases b2 <;> cases b3 <;> decide
theorem flags_bit1 (b0 b1 b2 b3 : Bool) : bit (flagsOf b0 b1 b2 b3) 1 = b1 := by cases b0 <;> cases b1 <;> cases b2 <;> cases b3 <;> decide
theorem flags_bit2 (b0 b1 b2 b3 : Bool) : bit (flagsOf b0 b1 b2 b3) 2 = b2 := by cases b0 <;> cases b1 <;> cases b2 <;> cases b3 <;> decide
theorem flags_bit3 (b0 b1 b2 b3 : Bool) : bit (flagsOf b0 b1 b2 b3) 3 = b3 := by cases b0 <;> cases b1 <;> cases b2 <;> cases b3 <;> decide
theorem flags_and (a0 a1 a2 a3 b0 b1 b2 b3 : Bool) (h0 : b0 = true → a0 = true) (h1 : b1 = true → a1 = true) (h2 : b2 = true → a2 = true) (h3 : b3 = true → a3 = true) :
    bits .and .u8 (flagsOf a0 a1 a2 a3) (flagsOf b0 b1 b2 b3) = flagsOf b0 b1 b2 b3 := by
  cases b0 <;> cases b1 <;> cases b2 <;> cases b3 <;> simp at h0 h1 h2 h3 <;> (try subst h0) <;> (try subst h1) <;> (try subst h2) <;> (try subst h3) <;> (try cases a0) <;> (try cases a1) <;> (try cases a2) <;> (try cases a3) <;> decide

set_option maxHeartbeats 4000000 in
theorem save (w : World) (g : Nat) (cs : List Value) (a : Option Addr) (n c : Nat) (s0 s1 s2 s3 : Int) (h : St w g cs a n c s0 s1 s2 s3) (hn : n ≤ 1099511627776) :
    Calls Try.prog 78 #[.pointer (some ⟨g, 0, none⟩)] w fun e w' => e = .returned (.int .u8 (flagsOf (s0 == n) (s1 == n) (s2 == n) (s3 == n))) ∧ w = w' := by
  have e9 : w.cell? ⟨g, 9, none⟩ = some (.slice a n c) := by rw [h.blk.cell]; exact h.js
  have e0 : w.cell? ⟨g, 60, none⟩ = some (.int .i64 s0) := by rw [h.blk.cell]; exact h.c0
  have e1 : w.cell? ⟨g, 61, none⟩ = some (.int .i64 s1) := by rw [h.blk.cell]; exact h.c1
  have e2 : w.cell? ⟨g, 62, none⟩ = some (.int .i64 s2) := by rw [h.blk.cell]; exact h.c2
  have e3 : w.cell? ⟨g, 63, none⟩ = some (.int .i64 s3) := by rw [h.blk.cell]; exact h.c3
  clear h
  have o0_1 : bits .or .u8 0 1 = 1 := by decide
  have o0_2 : bits .or .u8 0 2 = 2 := by decide
  have o1_2 : bits .or .u8 1 2 = 3 := by decide
  have o0_4 : bits .or .u8 0 4 = 4 := by decide
  have o1_4 : bits .or .u8 1 4 = 5 := by decide
  have o2_4 : bits .or .u8 2 4 = 6 := by decide
  have o3_4 : bits .or .u8 3 4 = 7 := by decide
  have o0_8 : bits .or .u8 0 8 = 8 := by decide
  have o1_8 : bits .or .u8 1 8 = 9 := by decide
  have o2_8 : bits .or .u8 2 8 = 10 := by decide
  have o3_8 : bits .or .u8 3 8 = 11 := by decide
  have o4_8 : bits .or .u8 4 8 = 12 := by decide
  have o5_8 : bits .or .u8 5 8 = 13 := by decide
  have o6_8 : bits .or .u8 6 8 = 14 := by decide
  have o7_8 : bits .or .u8 7 8 = 15 := by decide
  rcases bools (s0 == (n : Int)) with b0 | b0
  · rcases bools (s1 == (n : Int)) with b1 | b1
    · rcases bools (s2 == (n : Int)) with b2 | b2
      · rcases bools (s3 == (n : Int)) with b3 | b3
        · have HF : Hid (flagsOf (s0 == (n : Int)) (s1 == (n : Int)) (s2 == (n : Int)) (s3 == (n : Int)) = 0) := by rw [b0, b1, b2, b3]; rfl
          go_enter Try.func78, Try.ntmps78
          go_wp2
          go_ret
          exact ⟨by rw [HF.out]; rfl, rfl⟩
        · have HF : Hid (flagsOf (s0 == (n : Int)) (s1 == (n : Int)) (s2 == (n : Int)) (s3 == (n : Int)) = 8) := by rw [b0, b1, b2, b3]; rfl
          go_enter Try.func78, Try.ntmps78
          go_wp2
          go_ret
          exact ⟨by rw [HF.out]; rfl, rfl⟩
      · rcases bools (s3 == (n : Int)) with b3 | b3
        · have HF : Hid (flagsOf (s0 == (n : Int)) (s1 == (n : Int)) (s2 == (n : Int)) (s3 == (n : Int)) = 4) := by rw [b0, b1, b2, b3]; rfl
          go_enter Try.func78, Try.ntmps78
          go_wp2
          go_ret
          exact ⟨by rw [HF.out]; rfl, rfl⟩
        · have HF : Hid (flagsOf (s0 == (n : Int)) (s1 == (n : Int)) (s2 == (n : Int)) (s3 == (n : Int)) = 12) := by rw [b0, b1, b2, b3]; rfl
          go_enter Try.func78, Try.ntmps78
          go_wp2
          go_ret
          exact ⟨by rw [HF.out]; rfl, rfl⟩
    · rcases bools (s2 == (n : Int)) with b2 | b2
      · rcases bools (s3 == (n : Int)) with b3 | b3
        · have HF : Hid (flagsOf (s0 == (n : Int)) (s1 == (n : Int)) (s2 == (n : Int)) (s3 == (n : Int)) = 2) := by rw [b0, b1, b2, b3]; rfl
          go_enter Try.func78, Try.ntmps78
          go_wp2
          go_ret
          exact ⟨by rw [HF.out]; rfl, rfl⟩
        · have HF : Hid (flagsOf (s0 == (n : Int)) (s1 == (n : Int)) (s2 == (n : Int)) (s3 == (n : Int)) = 10) := by rw [b0, b1, b2, b3]; rfl
          go_enter Try.func78, Try.ntmps78
          go_wp2
          go_ret
          exact ⟨by rw [HF.out]; rfl, rfl⟩
      · rcases bools (s3 == (n : Int)) with b3 | b3
        · have HF : Hid (flagsOf (s0 == (n : Int)) (s1 == (n : Int)) (s2 == (n : Int)) (s3 == (n : Int)) = 6) := by rw [b0, b1, b2, b3]; rfl
          go_enter Try.func78, Try.ntmps78
          go_wp2
          go_ret
          exact ⟨by rw [HF.out]; rfl, rfl⟩
        · have HF : Hid (flagsOf (s0 == (n : Int)) (s1 == (n : Int)) (s2 == (n : Int)) (s3 == (n : Int)) = 14) := by rw [b0, b1, b2, b3]; rfl
          go_enter Try.func78, Try.ntmps78
          go_wp2
          go_ret
          exact ⟨by rw [HF.out]; rfl, rfl⟩
  · rcases bools (s1 == (n : Int)) with b1 | b1
    · rcases bools (s2 == (n : Int)) with b2 | b2
      · rcases bools (s3 == (n : Int)) with b3 | b3
        · have HF : Hid (flagsOf (s0 == (n : Int)) (s1 == (n : Int)) (s2 == (n : Int)) (s3 == (n : Int)) = 1) := by rw [b0, b1, b2, b3]; rfl
          go_enter Try.func78, Try.ntmps78
          go_wp2
          go_ret
          exact ⟨by rw [HF.out]; rfl, rfl⟩
        · have HF : Hid (flagsOf (s0 == (n : Int)) (s1 == (n : Int)) (s2 == (n : Int)) (s3 == (n : Int)) = 9) := by rw [b0, b1, b2, b3]; rfl
          go_enter Try.func78, Try.ntmps78
          go_wp2
          go_ret
          exact ⟨by rw [HF.out]; rfl, rfl⟩
      · rcases bools (s3 == (n : Int)) with b3 | b3
        · have HF : Hid (flagsOf (s0 == (n : Int)) (s1 == (n : Int)) (s2 == (n : Int)) (s3 == (n : Int)) = 5) := by rw [b0, b1, b2, b3]; rfl
          go_enter Try.func78, Try.ntmps78
          go_wp2
          go_ret
          exact ⟨by rw [HF.out]; rfl, rfl⟩
        · have HF : Hid (flagsOf (s0 == (n : Int)) (s1 == (n : Int)) (s2 == (n : Int)) (s3 == (n : Int)) = 13) := by rw [b0, b1, b2, b3]; rfl
          go_enter Try.func78, Try.ntmps78
          go_wp2
          go_ret
          exact ⟨by rw [HF.out]; rfl, rfl⟩
    · rcases bools (s2 == (n : Int)) with b2 | b2
      · rcases bools (s3 == (n : Int)) with b3 | b3
        · have HF : Hid (flagsOf (s0 == (n : Int)) (s1 == (n : Int)) (s2 == (n : Int)) (s3 == (n : Int)) = 3) := by rw [b0, b1, b2, b3]; rfl
          go_enter Try.func78, Try.ntmps78
          go_wp2
          go_ret
          exact ⟨by rw [HF.out]; rfl, rfl⟩
        · have HF : Hid (flagsOf (s0 == (n : Int)) (s1 == (n : Int)) (s2 == (n : Int)) (s3 == (n : Int)) = 11) := by rw [b0, b1, b2, b3]; rfl
          go_enter Try.func78, Try.ntmps78
          go_wp2
          go_ret
          exact ⟨by rw [HF.out]; rfl, rfl⟩
      · rcases bools (s3 == (n : Int)) with b3 | b3
        · have HF : Hid (flagsOf (s0 == (n : Int)) (s1 == (n : Int)) (s2 == (n : Int)) (s3 == (n : Int)) = 7) := by rw [b0, b1, b2, b3]; rfl
          go_enter Try.func78, Try.ntmps78
          go_wp2
          go_ret
          exact ⟨by rw [HF.out]; rfl, rfl⟩
        · have HF : Hid (flagsOf (s0 == (n : Int)) (s1 == (n : Int)) (s2 == (n : Int)) (s3 == (n : Int)) = 15) := by rw [b0, b1, b2, b3]; rfl
          go_enter Try.func78, Try.ntmps78
          go_wp2
          go_ret
          exact ⟨by rw [HF.out]; rfl, rfl⟩

theorem zzsave (w : World) (g : Nat) (cs : List Value) (a : Option Addr) (n c : Nat) (s0 s1 s2 s3 : Int) (h : St w g cs a n c s0 s1 s2 s3) (hn : n ≤ 1099511627776) :
    Calls Try.prog 52 #[.pointer (some ⟨g, 0, none⟩)] w fun e w' => e = .returned (.int .u8 (flagsOf (s0 == n) (s1 == n) (s2 == n) (s3 == n))) ∧ w = w' := by
  have HC := Lib.hid (save w g cs a n c s0 s1 s2 s3 h hn)
  clear h
  generalize flagsOf (s0 == (n : Int)) (s1 == (n : Int)) (s2 == (n : Int)) (s3 == (n : Int)) = F at *
  go_enter Try.func52, Try.ntmps52
  go_wp2_with fail
  refine HC.out.mono ?_
  rintro e w' ⟨rfl, rfl⟩
  go_wp2
  go_ret
  exact ⟨rfl, rfl⟩
theorem zzjs (w : World) (g : Nat) (cs : List Value) (a : Option Addr) (n c : Nat) (h : Blk w g 111 cs) (hj : cs[9]? = some (.slice a n c)) :
    Calls Try.prog 54 #[.pointer (some ⟨g, 0, none⟩)] w fun e w' => e = .returned (.slice a n c) ∧ w = w' := by
  have hc : w.cell? ⟨g, 9, none⟩ = some (.slice a n c) := by rw [h.cell]; exact hj
  clear h hj
  go_enter Try.func54, Try.ntmps54
  go_wp2
  go_ret
  exact ⟨rfl, rfl⟩
theorem zzprint (w : World) (g : Nat) (cs : List Value) (a : Option Addr) (c : Nat) (xs : List Int) (s : ByteArray) (h : Pr w g cs a c xs) (hb : xs.length + s.size ≤ 70368744177664) :
    Calls Try.prog 53 #[.pointer (some ⟨g, 0, none⟩), .string s] w (Printed w g cs a xs (bytesOf s)) := by
  have HC := Lib.hid (print w g cs a c xs s h hb)
  clear h
  go_enter Try.func53, Try.ntmps53
  go_wp2_with fail
  refine HC.out.mono ?_
  rintro e w2 ⟨a2, c2, rfl, hp, hs⟩
  have HP := Lib.hid hp
  have HS := Lib.hid hs
  clear hp hs
  go_wp2
  go_end0
  exact ⟨a2, c2, rfl, HP.out, HS.out⟩
end Go.Proofs.Ytgoffcpchgepeaa.save
