/-
  Contracts of the n011_69 helpers over this seat's program: a printer with four starts, restoreExprStartFlags, the reader of the starts.
  Conditions: the output is at most 2^40 bytes long.
-/
import Derived.Test.YtgoffcpchgepeaaPr
import Derived.Laws.BitsAllLaws
import Derived.Deep.QuietTactic
import Derived.BigQuiet
namespace Go.Proofs.Ytgoffcpchgepeaa.starts
open Go.ChangeShapes Go.WideShapes Go.ChangeAt Go.RowKit
open kit pr

theorem big : 136 ≤ Try.zeroCells111.size := of_decide_eq_true (by kernel_rfl)

/-- a printer's four starts, and its output -/
structure St (w : World) (g : Nat) (cs : List Value) (a : Option Addr) (n c : Nat) (s0 s1 s2 s3 : Int) : Prop where
  blk : Blk w g 111 cs
  js : cs[9]? = some (.slice a n c)
  c0 : cs[60]? = some (.int .i64 s0)
  c1 : cs[61]? = some (.int .i64 s1)
  c2 : cs[62]? = some (.int .i64 s2)
  c3 : cs[63]? = some (.int .i64 s3)

theorem St.kept {w w2 : World} {g : Nat} {cs : List Value} {a : Option Addr} {n c : Nat} {s0 s1 s2 s3 : Int} (h : St w g cs a n c s0 s1 s2 s3) (hk : Kept w w2) : St w2 g cs a n c s0 s1 s2 s3 :=
  ⟨h.blk.kept hk, h.js, h.c0, h.c1, h.c2, h.c3⟩
theorem St.other {w w2 : World} {g g1 : Nat} {cs : List Value} {a : Option Addr} {n c : Nat} {s0 s1 s2 s3 : Int} (h : St w g cs a n c s0 s1 s2 s3) (hs : Step w w2 g1 none none) (hg : g ≠ g1) : St w2 g cs a n c s0 s1 s2 s3 :=
  ⟨(hs.block g h.blk.lt hg (by simp)).trans h.blk, h.js, h.c0, h.c1, h.c2, h.c3⟩

def New (w : World) (a : Option Addr) (n c : Nat) (s0 s1 s2 s3 : Int) (e : Ending) (w2 : World) : Prop :=
  ∃ cs, e = .returned (.pointer (some ⟨w.heap.size, 0, none⟩)) ∧ St w2 w.heap.size cs a n c s0 s1 s2 s3 ∧ Kept w w2

theorem new_of {w : World} {a : Option Addr} {n c : Nat} {s0 s1 s2 s3 : Int} (CS : Array Value) (h9 : CS[9]? = some (.slice a n c)) (h0 : CS[60]? = some (.int .i64 s0)) (h1 : CS[61]? = some (.int .i64 s1))
    (h2 : CS[62]? = some (.int .i64 s2)) (h3 : CS[63]? = some (.int .i64 s3)) : New w a n c s0 s1 s2 s3 (.returned (.pointer (some ⟨w.heap.size, 0, none⟩))) (w.alloc (.cells CS 111)) := by
  refine ⟨CS.toList, rfl, ⟨?_, by simpa using h9, by simpa using h0, by simpa using h1, by simpa using h2, by simpa using h3⟩, (Kept.refl _).alloc _⟩
  have := heap_alloc_new w (.cells CS 111)
  simpa [Blk] using this

set_option maxRecDepth 100000 in
set_option maxHeartbeats 1000000 in
theorem new69 (w : World) (a : Option Addr) (n c : Nat) (s0 s1 s2 s3 : Int) :
    Calls Try.prog 30 #[.slice a n c, .int .i64 s0, .int .i64 s1, .int .i64 s2, .int .i64 s3] w (New w a n c s0 s1 s2 s3) := by
  go_enter Try.func30, Try.ntmps30
  go_wp2
  go_ret
  have hbig := big
  refine new_of _ ?_ ?_ ?_ ?_ ?_
  all_goals
    (repeat rw [Array.getElem?_setIfInBounds_ne (by decide)])
    rw [Array.getElem?_setIfInBounds_self_of_lt (by (try simp only [Array.size_setIfInBounds]); omega)]

set_option maxHeartbeats 1000000 in
theorem starts69 (w : World) (g : Nat) (cs : List Value) (a : Option Addr) (n c : Nat) (s0 s1 s2 s3 : Int) (h : St w g cs a n c s0 s1 s2 s3) :
    Calls Try.prog 32 #[.pointer (some ⟨g, 0, none⟩)] w fun e w' => e = .returned (.tuple #[.int .i64 s0, .int .i64 s1, .int .i64 s2, .int .i64 s3]) ∧ Kept w w' := by
  have e0 : w.cell? ⟨g, 60, none⟩ = some (.int .i64 s0) := by rw [h.blk.cell]; exact h.c0
  have e1 : w.cell? ⟨g, 61, none⟩ = some (.int .i64 s1) := by rw [h.blk.cell]; exact h.c1
  have e2 : w.cell? ⟨g, 62, none⟩ = some (.int .i64 s2) := by rw [h.blk.cell]; exact h.c2
  have e3 : w.cell? ⟨g, 63, none⟩ = some (.int .i64 s3) := by rw [h.blk.cell]; exact h.c3
  clear h
  go_enter Try.func32, Try.ntmps32
  go_wp2
  go_quiet (fail)
  go_wp2
  refine bodyPost_ret (v := .tuple #[.int .i64 s0, .int .i64 s1, .int .i64 s2, .int .i64 s3]) (by simp [results, Try.results32]) rfl ⟨rfl, (Kept.refl _).drewN _⟩

/-- a start behind a restore -/
def upd (b : Bool) (n : Nat) (s : Int) : Int := if b then (n : Int) else s
def bit (f : Int) (i : Nat) : Bool := f.toNat.testBit i
theorem and_bit (f : Int) (h0 : 0 ≤ f) (h1 : f ≤ 255) (i : Nat) (hi : i < 8) : bits .and .u8 f (2 ^ i) = if bit f i then 2 ^ i else 0 := by
  obtain ⟨x, rfl⟩ := Int.eq_ofNat_of_zero_le h0
  have hp : (2 : Nat) ^ i < 256 := by
    have := Nat.pow_lt_pow_right (a := 2) (by decide) hi
    simpa using this
  have e : ((2 : Int) ^ i) = ((2 ^ i : Nat) : Int) := by simp
  rw [e, u8_and_nat _ _ (by omega) hp, nat_bit]
  unfold bit
  rw [Int.toNat_natCast, Nat.testBit_eq_decide_div_mod_eq]
  have h2 : x / 2 ^ i % 2 = 0 ∨ x / 2 ^ i % 2 = 1 := by omega
  rcases h2 with h2 | h2 <;> simp [h2]
theorem bit_zero (i : Nat) : bit 0 i = false := by simp [bit]
theorem bit_or (f g : Int) (h0 : 0 ≤ f) (h1 : f ≤ 255) (k0 : 0 ≤ g) (k1 : g ≤ 255) (i : Nat) : bit (bits .or .u8 f g) i = (bit f i || bit g i) := by
  rw [u8_or f g h0 (by omega) k0 (by omega)]
  simp [bit, Nat.testBit_or]
theorem or_bound (f g : Int) (h0 : 0 ≤ f) (h1 : f ≤ 255) (k0 : 0 ≤ g) (k1 : g ≤ 255) : 0 ≤ bits .or .u8 f g ∧ bits .or .u8 f g ≤ 255 := by
  rw [u8_or f g h0 (by omega) k0 (by omega)]
  have := Nat.or_lt_two_pow (n := 8) (x := f.toNat) (y := g.toNat) (by omega) (by omega)
  omega

def Restored (w : World) (g : Nat) (a : Option Addr) (n c : Nat) (s0 s1 s2 s3 : Int) (f : Int) (e : Ending) (w2 : World) : Prop :=
  ∃ cs2, e = .returned (.tuple #[]) ∧ St w2 g cs2 a n c (upd (bit f 0) n s0) (upd (bit f 1) n s1) (upd (bit f 2) n s2) (upd (bit f 3) n s3) ∧ Step w w2 g none none

theorem St.set0 {w : World} {g : Nat} {cs : List Value} {a : Option Addr} {n c : Nat} {s0 s1 s2 s3 : Int} (h : St w g cs a n c s0 s1 s2 s3) (x : Int) : St (w.setCell ⟨g, 60, none⟩ (.int .i64 x)) g (cs.set 60 (.int .i64 x)) a n c x s1 s2 s3 :=
  ⟨h.blk.set _ _, by rw [List.getElem?_set_ne (by decide)]; exact h.js, by rw [List.getElem?_set_self (List.getElem?_eq_some_iff.1 h.c0).1], by rw [List.getElem?_set_ne (by decide)]; exact h.c1, by rw [List.getElem?_set_ne (by decide)]; exact h.c2, by rw [List.getElem?_set_ne (by decide)]; exact h.c3⟩
theorem St.set1 {w : World} {g : Nat} {cs : List Value} {a : Option Addr} {n c : Nat} {s0 s1 s2 s3 : Int} (h : St w g cs a n c s0 s1 s2 s3) (x : Int) : St (w.setCell ⟨g, 61, none⟩ (.int .i64 x)) g (cs.set 61 (.int .i64 x)) a n c s0 x s2 s3 :=
  ⟨h.blk.set _ _, by rw [List.getElem?_set_ne (by decide)]; exact h.js, by rw [List.getElem?_set_ne (by decide)]; exact h.c0, by rw [List.getElem?_set_self (List.getElem?_eq_some_iff.1 h.c1).1], by rw [List.getElem?_set_ne (by decide)]; exact h.c2, by rw [List.getElem?_set_ne (by decide)]; exact h.c3⟩
theorem St.set2 {w : World} {g : Nat} {cs : List Value} {a : Option Addr} {n c : Nat} {s0 s1 s2 s3 : Int} (h : St w g cs a n c s0 s1 s2 s3) (x : Int) : St (w.setCell ⟨g, 62, none⟩ (.int .i64 x)) g (cs.set 62 (.int .i64 x)) a n c s0 s1 x s3 :=
  ⟨h.blk.set _ _, by rw [List.getElem?_set_ne (by decide)]; exact h.js, by rw [List.getElem?_set_ne (by decide)]; exact h.c0, by rw [List.getElem?_set_ne (by decide)]; exact h.c1, by rw [List.getElem?_set_self (List.getElem?_eq_some_iff.1 h.c2).1], by rw [List.getElem?_set_ne (by decide)]; exact h.c3⟩
theorem St.set3 {w : World} {g : Nat} {cs : List Value} {a : Option Addr} {n c : Nat} {s0 s1 s2 s3 : Int} (h : St w g cs a n c s0 s1 s2 s3) (x : Int) : St (w.setCell ⟨g, 63, none⟩ (.int .i64 x)) g (cs.set 63 (.int .i64 x)) a n c s0 s1 s2 x :=
  ⟨h.blk.set _ _, by rw [List.getElem?_set_ne (by decide)]; exact h.js, by rw [List.getElem?_set_ne (by decide)]; exact h.c0, by rw [List.getElem?_set_ne (by decide)]; exact h.c1, by rw [List.getElem?_set_ne (by decide)]; exact h.c2, by rw [List.getElem?_set_self (List.getElem?_eq_some_iff.1 h.c3).1]⟩

set_option maxHeartbeats 8000000 in
theorem restore (w : World) (g : Nat) (cs : List Value) (a : Option Addr) (n c : Nat) (s0 s1 s2 s3 : Int) (f : Int) (h : St w g cs a n c s0 s1 s2 s3) (h0 : 0 ≤ f) (h1 : f ≤ 255) (_hn : n ≤ 1099511627776) :
    Calls Try.prog 72 #[.pointer (some ⟨g, 0, none⟩), .int .u8 f] w (Restored w g a n c s0 s1 s2 s3 f) := by
  have e9 : w.cell? ⟨g, 9, none⟩ = some (.slice a n c) := by rw [h.blk.cell]; exact h.js
  have e0 : w.cell? ⟨g, 60, none⟩ = some (.int .i64 s0) := by rw [h.blk.cell]; exact h.c0
  have e1 : w.cell? ⟨g, 61, none⟩ = some (.int .i64 s1) := by rw [h.blk.cell]; exact h.c1
  have e2 : w.cell? ⟨g, 62, none⟩ = some (.int .i64 s2) := by rw [h.blk.cell]; exact h.c2
  have e3 : w.cell? ⟨g, 63, none⟩ = some (.int .i64 s3) := by rw [h.blk.cell]; exact h.c3
  have f0 := h.blk.free 60
  have f1 := h.blk.free 61
  have f2 := h.blk.free 62
  have f3 := h.blk.free 63
  have a0 := and_bit f h0 h1 0 (by decide)
  have a1 := and_bit f h0 h1 1 (by decide)
  have a2 := and_bit f h0 h1 2 (by decide)
  have a3 := and_bit f h0 h1 3 (by decide)
  have HS := Lib.hid h
  clear h
  by_cases hf : f = 0
  · subst hf
    have hne : ((0 : Int) != 0) = false := by decide
    clear a0 a1 a2 a3
    go_enter Try.func72, Try.ntmps72
    go_wp2
    go_end0
    exact ⟨cs, rfl, by simp only [bit_zero, upd, Bool.false_eq_true, if_false]; exact HS.out, Step.refl _ _ _⟩
  · have hne : (f != 0) = true := by simpa using hf
    simp only [Int.reducePow] at a0 a1 a2 a3
    have S0 := Step.refl w g none
    rcases bools (bit f 0) with b0 | b0
    · rcases bools (bit f 1) with b1 | b1
      · rcases bools (bit f 2) with b2 | b2
        · rcases bools (bit f 3) with b3 | b3
          · simp only [b0, b1, b2, b3, Bool.false_eq_true, if_false, if_true] at a0 a1 a2 a3
            have B0 := Lib.hid b0
            have B1 := Lib.hid b1
            have B2 := Lib.hid b2
            have B3 := Lib.hid b3
            clear b0 b1 b2 b3
            go_enter Try.func72, Try.ntmps72
            go_wp2
            (first | go_end0 | skip)
            unfold Restored
            rw [B0.out, B1.out, B2.out, B3.out]
            have h := HS.out
            exact ⟨_, (by first | trivial | rfl), h, S0⟩
          · simp only [b0, b1, b2, b3, Bool.false_eq_true, if_false, if_true] at a0 a1 a2 a3
            have B0 := Lib.hid b0
            have B1 := Lib.hid b1
            have B2 := Lib.hid b2
            have B3 := Lib.hid b3
            clear b0 b1 b2 b3
            go_enter Try.func72, Try.ntmps72
            go_wp2
            (first | go_end0 | skip)
            unfold Restored
            rw [B0.out, B1.out, B2.out, B3.out]
            have h := HS.out
            exact ⟨_, (by first | trivial | rfl), (h.set3 _), (S0.setCell _ _)⟩
        · rcases bools (bit f 3) with b3 | b3
          · simp only [b0, b1, b2, b3, Bool.false_eq_true, if_false, if_true] at a0 a1 a2 a3
            have B0 := Lib.hid b0
            have B1 := Lib.hid b1
            have B2 := Lib.hid b2
            have B3 := Lib.hid b3
            clear b0 b1 b2 b3
            go_enter Try.func72, Try.ntmps72
            go_wp2
            (first | go_end0 | skip)
            unfold Restored
            rw [B0.out, B1.out, B2.out, B3.out]
            have h := HS.out
            exact ⟨_, (by first | trivial | rfl), (h.set2 _), (S0.setCell _ _)⟩
          · simp only [b0, b1, b2, b3, Bool.false_eq_true, if_false, if_true] at a0 a1 a2 a3
            have B0 := Lib.hid b0
            have B1 := Lib.hid b1
            have B2 := Lib.hid b2
            have B3 := Lib.hid b3
            clear b0 b1 b2 b3
            go_enter Try.func72, Try.ntmps72
            go_wp2
            (first | go_end0 | skip)
            unfold Restored
            rw [B0.out, B1.out, B2.out, B3.out]
            have h := HS.out
            exact ⟨_, (by first | trivial | rfl), ((h.set2 _).set3 _), ((S0.setCell _ _).setCell _ _)⟩
      · rcases bools (bit f 2) with b2 | b2
        · rcases bools (bit f 3) with b3 | b3
          · simp only [b0, b1, b2, b3, Bool.false_eq_true, if_false, if_true] at a0 a1 a2 a3
            have B0 := Lib.hid b0
            have B1 := Lib.hid b1
            have B2 := Lib.hid b2
            have B3 := Lib.hid b3
            clear b0 b1 b2 b3
            go_enter Try.func72, Try.ntmps72
            go_wp2
            (first | go_end0 | skip)
            unfold Restored
            rw [B0.out, B1.out, B2.out, B3.out]
            have h := HS.out
            exact ⟨_, (by first | trivial | rfl), (h.set1 _), (S0.setCell _ _)⟩
          · simp only [b0, b1, b2, b3, Bool.false_eq_true, if_false, if_true] at a0 a1 a2 a3
            have B0 := Lib.hid b0
            have B1 := Lib.hid b1
            have B2 := Lib.hid b2
            have B3 := Lib.hid b3
            clear b0 b1 b2 b3
            go_enter Try.func72, Try.ntmps72
            go_wp2
            (first | go_end0 | skip)
            unfold Restored
            rw [B0.out, B1.out, B2.out, B3.out]
            have h := HS.out
            exact ⟨_, (by first | trivial | rfl), ((h.set1 _).set3 _), ((S0.setCell _ _).setCell _ _)⟩
        · rcases bools (bit f 3) with b3 | b3
          · simp only [b0, b1, b2, b3, Bool.false_eq_true, if_false, if_true] at a0 a1 a2 a3
            have B0 := Lib.hid b0
            have B1 := Lib.hid b1
            have B2 := Lib.hid b2
            have B3 := Lib.hid b3
            clear b0 b1 b2 b3
            go_enter Try.func72, Try.ntmps72
            go_wp2
            (first | go_end0 | skip)
            unfold Restored
            rw [B0.out, B1.out, B2.out, B3.out]
            have h := HS.out
            exact ⟨_, (by first | trivial | rfl), ((h.set1 _).set2 _), ((S0.setCell _ _).setCell _ _)⟩
          · simp only [b0, b1, b2, b3, Bool.false_eq_true, if_false, if_true] at a0 a1 a2 a3
            have B0 := Lib.hid b0
            have B1 := Lib.hid b1
            have B2 := Lib.hid b2
            have B3 := Lib.hid b3
            clear b0 b1 b2 b3
            go_enter Try.func72, Try.ntmps72
            go_wp2
            (first | go_end0 | skip)
            unfold Restored
            rw [B0.out, B1.out, B2.out, B3.out]
            have h := HS.out
            exact ⟨_, (by first | trivial | rfl), (((h.set1 _).set2 _).set3 _), (((S0.setCell _ _).setCell _ _).setCell _ _)⟩
    · rcases bools (bit f 1) with b1 | b1
      · rcases bools (bit f 2) with b2 | b2
        · rcases bools (bit f 3) with b3 | b3
          · simp only [b0, b1, b2, b3, Bool.false_eq_true, if_false, if_true] at a0 a1 a2 a3
            have B0 := Lib.hid b0
            have B1 := Lib.hid b1
            have B2 := Lib.hid b2
            have B3 := Lib.hid b3
            clear b0 b1 b2 b3
            go_enter Try.func72, Try.ntmps72
            go_wp2
            (first | go_end0 | skip)
            unfold Restored
            rw [B0.out, B1.out, B2.out, B3.out]
            have h := HS.out
            exact ⟨_, (by first | trivial | rfl), (h.set0 _), (S0.setCell _ _)⟩
          · simp only [b0, b1, b2, b3, Bool.false_eq_true, if_false, if_true] at a0 a1 a2 a3
            have B0 := Lib.hid b0
            have B1 := Lib.hid b1
            have B2 := Lib.hid b2
            have B3 := Lib.hid b3
            clear b0 b1 b2 b3
            go_enter Try.func72, Try.ntmps72
            go_wp2
            (first | go_end0 | skip)
            unfold Restored
            rw [B0.out, B1.out, B2.out, B3.out]
            have h := HS.out
            exact ⟨_, (by first | trivial | rfl), ((h.set0 _).set3 _), ((S0.setCell _ _).setCell _ _)⟩
        · rcases bools (bit f 3) with b3 | b3
          · simp only [b0, b1, b2, b3, Bool.false_eq_true, if_false, if_true] at a0 a1 a2 a3
            have B0 := Lib.hid b0
            have B1 := Lib.hid b1
            have B2 := Lib.hid b2
            have B3 := Lib.hid b3
            clear b0 b1 b2 b3
            go_enter Try.func72, Try.ntmps72
            go_wp2
            (first | go_end0 | skip)
            unfold Restored
            rw [B0.out, B1.out, B2.out, B3.out]
            have h := HS.out
            exact ⟨_, (by first | trivial | rfl), ((h.set0 _).set2 _), ((S0.setCell _ _).setCell _ _)⟩
          · simp only [b0, b1, b2, b3, Bool.false_eq_true, if_false, if_true] at a0 a1 a2 a3
            have B0 := Lib.hid b0
            have B1 := Lib.hid b1
            have B2 := Lib.hid b2
            have B3 := Lib.hid b3
            clear b0 b1 b2 b3
            go_enter Try.func72, Try.ntmps72
            go_wp2
            (first | go_end0 | skip)
            unfold Restored
            rw [B0.out, B1.out, B2.out, B3.out]
            have h := HS.out
            exact ⟨_, (by first | trivial | rfl), (((h.set0 _).set2 _).set3 _), (((S0.setCell _ _).setCell _ _).setCell _ _)⟩
      · rcases bools (bit f 2) with b2 | b2
        · rcases bools (bit f 3) with b3 | b3
          · simp only [b0, b1, b2, b3, Bool.false_eq_true, if_false, if_true] at a0 a1 a2 a3
            have B0 := Lib.hid b0
            have B1 := Lib.hid b1
            have B2 := Lib.hid b2
            have B3 := Lib.hid b3
            clear b0 b1 b2 b3
            go_enter Try.func72, Try.ntmps72
            go_wp2
            (first | go_end0 | skip)
            unfold Restored
            rw [B0.out, B1.out, B2.out, B3.out]
            have h := HS.out
            exact ⟨_, (by first | trivial | rfl), ((h.set0 _).set1 _), ((S0.setCell _ _).setCell _ _)⟩
          · simp only [b0, b1, b2, b3, Bool.false_eq_true, if_false, if_true] at a0 a1 a2 a3
            have B0 := Lib.hid b0
            have B1 := Lib.hid b1
            have B2 := Lib.hid b2
            have B3 := Lib.hid b3
            clear b0 b1 b2 b3
            go_enter Try.func72, Try.ntmps72
            go_wp2
            (first | go_end0 | skip)
            unfold Restored
            rw [B0.out, B1.out, B2.out, B3.out]
            have h := HS.out
            exact ⟨_, (by first | trivial | rfl), (((h.set0 _).set1 _).set3 _), (((S0.setCell _ _).setCell _ _).setCell _ _)⟩
        · rcases bools (bit f 3) with b3 | b3
          · simp only [b0, b1, b2, b3, Bool.false_eq_true, if_false, if_true] at a0 a1 a2 a3
            have B0 := Lib.hid b0
            have B1 := Lib.hid b1
            have B2 := Lib.hid b2
            have B3 := Lib.hid b3
            clear b0 b1 b2 b3
            go_enter Try.func72, Try.ntmps72
            go_wp2
            (first | go_end0 | skip)
            unfold Restored
            rw [B0.out, B1.out, B2.out, B3.out]
            have h := HS.out
            exact ⟨_, (by first | trivial | rfl), (((h.set0 _).set1 _).set2 _), (((S0.setCell _ _).setCell _ _).setCell _ _)⟩
          · simp only [b0, b1, b2, b3, Bool.false_eq_true, if_false, if_true] at a0 a1 a2 a3
            have B0 := Lib.hid b0
            have B1 := Lib.hid b1
            have B2 := Lib.hid b2
            have B3 := Lib.hid b3
            clear b0 b1 b2 b3
            go_enter Try.func72, Try.ntmps72
            go_wp2
            (first | go_end0 | skip)
            unfold Restored
            rw [B0.out, B1.out, B2.out, B3.out]
            have h := HS.out
            exact ⟨_, (by first | trivial | rfl), ((((h.set0 _).set1 _).set2 _).set3 _), ((((S0.setCell _ _).setCell _ _).setCell _ _).setCell _ _)⟩
theorem zzrestore (w : World) (g : Nat) (cs : List Value) (a : Option Addr) (n c : Nat) (s0 s1 s2 s3 : Int) (f : Int) (h : St w g cs a n c s0 s1 s2 s3) (h0 : 0 ≤ f) (h1 : f ≤ 255) (hn : n ≤ 1099511627776) :
    Calls Try.prog 31 #[.pointer (some ⟨g, 0, none⟩), .int .u8 f] w (Restored w g a n c s0 s1 s2 s3 f) := by
  have HC := Lib.hid (restore w g cs a n c s0 s1 s2 s3 f h h0 h1 hn)
  clear h
  go_enter Try.func31, Try.ntmps31
  go_wp2_with fail
  refine HC.out.mono ?_
  rintro e w2 ⟨cs2, rfl, hp, hs⟩
  have HP := Lib.hid hp
  have HS := Lib.hid hs
  clear hp hs
  go_wp2
  go_end0
  exact ⟨cs2, rfl, HP.out, HS.out⟩
end Go.Proofs.Ytgoffcpchgepeaa.starts
