/-
  The decoding of UTF-8 over this seat's program, at the bytes of a token.
  Conditions: none beyond the token's own.
-/
import Derived.Test.YteoeiklojidgnaaFmtRd
import Derived.OwnWalk
import Derived.BigRegion
import Derived.Deep.CutRange
namespace Go.Proofs.YteoeiklojidgnaaFmt.ur
open Go.ChangeShapes Go.WideShapes Go.ChangeAt Go.RowKit
open kit uq

def Dec (r m : Int) (w : World) (e : Ending) (w' : World) : Prop := e = .returned (.tuple #[.int .i32 r, .int .i64 m, .bool true]) ∧ Kept w w'
set_option maxRecDepth 100000 in
theorem dec1 (S : ByteArray) (B : List Int) (hs : Str S B) (i : Nat) (w : World) (c : Int) (h0 : 0 ≤ c) (h1 : c < 128) (hb : B[i]? = some c) : Calls Tryf.prog 14 #[.string S, .int .i64 (i : Int)] w (Dec c 1 w) := by
  have x0 := hs.2 i c hb
  clear hs hb
  go_enter Tryf.func14, Tryf.ntmps14
  go_wp2_with fail
  go_ret3
  exact ⟨rfl, by first | exact Kept.refl _ | exact (Kept.refl _).drew⟩
set_option maxRecDepth 100000 in
set_option maxHeartbeats 4000000 in
theorem dec2 (S : ByteArray) (B : List Int) (hs : Str S B) (i : Nat) (w : World) (c : Int) (h0 : 128 ≤ c) (h1 : c < 2048) (hb0 : B[i]? = some (192 + c / 64)) (hb1 : B[i + 1]? = some (128 + c % 64)) (hl : B.length ≤ 1099511627776) : Calls Tryf.prog 14 #[.string S, .int .i64 (i : Int)] w (Dec c 2 w) := by
  have x0 := hs.2 i _ hb0
  have x1 := hs.2 (i + 1) _ hb1
  have hsz : S.size = B.length := hs.1
  have hlt := (List.getElem?_eq_some_iff.1 hb1).1
  have l0 := lead2 c h0 h1
  have l1 := tail6 (c % 64) (by omega) (by omega)
  have l2 := join2 c (by omega) h1
  have HC := Lib.hid (isCont (128 + c % 64) (by omega) (by omega) w)
  have r0 : 2 ≤ c / 64 ∧ c / 64 < 32 ∧ 0 ≤ c % 64 ∧ c % 64 < 64 := by omega
  obtain ⟨r0, r1, r2, r3⟩ := r0
  rw [show ((i + 1 : Nat) : Int) = (i : Int) + 1 from rfl] at x1
  clear hs hb0 hb1
  generalize B.length = n at *
  have i1 : (i : Int) + 1 < (n : Int) := by omega
  generalize c / 64 = x at *
  generalize c % 64 = y at *
  generalize hb0 : 192 + x = b0 at *
  generalize hb1 : 128 + y = b1 at *
  have j1 : 194 ≤ b0 := by omega
  have j2 : b0 ≤ 223 := by omega
  clear hb0 hb1
  go_enter Tryf.func14, Tryf.ntmps14
  go_wp2_with fail
  refine HC.out.mono ?_
  rintro e w' ⟨rfl, rfl⟩
  dsimp only
  go_wp2_with fail
  go_ret3
  exact ⟨rfl, by first | exact Kept.refl _ | exact (Kept.refl _).drew⟩
set_option maxRecDepth 100000 in
set_option maxHeartbeats 8000000 in
theorem dec3 (S : ByteArray) (B : List Int) (hs : Str S B) (i : Nat) (w : World) (c : Int) (h0 : 2048 ≤ c) (h1 : c < 65536) (h2 : ¬ (55296 ≤ c ∧ c < 57344)) (hb0 : B[i]? = some (224 + c / 4096)) (hb1 : B[i + 1]? = some (128 + c / 64 % 64)) (hb2 : B[i + 2]? = some (128 + c % 64)) (hl : B.length ≤ 1099511627776) : Calls Tryf.prog 14 #[.string S, .int .i64 (i : Int)] w (Dec c 3 w) := by
  have x0 := hs.2 i _ hb0
  have x1 := hs.2 (i + 1) _ hb1
  have x2 := hs.2 (i + 2) _ hb2
  have hsz : S.size = B.length := hs.1
  have hlt := (List.getElem?_eq_some_iff.1 hb2).1
  have l0 := lead3 c h0 h1
  have l1 := tail6 (c / 64 % 64) (by omega) (by omega)
  have l2 := tail6 (c % 64) (by omega) (by omega)
  have l3 := join3a c (by omega) h1
  have l4 := join6 c (by omega) (by omega)
  have HC := Lib.hid (isCont (128 + c % 64) (by omega) (by omega))
  have r0 : 0 ≤ c / 4096 ∧ c / 4096 < 16 ∧ 0 ≤ c / 64 % 64 ∧ c / 64 % 64 < 64 ∧ 0 ≤ c % 64 ∧ c % 64 < 64 ∧ (c / 4096 = 0 → 32 ≤ c / 64 % 64) ∧ (c / 4096 = 13 → c / 64 % 64 < 32) ∧ 0 ≤ c / 64 ∧ c / 64 < 1024 := by omega
  obtain ⟨r0, r1, r2, r3, r4, r5, r6, r7, r8, r9⟩ := r0
  rw [show ((i + 1 : Nat) : Int) = (i : Int) + 1 from rfl] at x1
  rw [show ((i + 2 : Nat) : Int) = (i : Int) + 2 from rfl] at x2
  clear hs hb0 hb1 hb2 h2
  generalize B.length = n at *
  have i1 : (i : Int) + 2 < (n : Int) := by omega
  generalize hz : c / 64 = cc at *
  clear hz
  generalize c / 4096 = x at *
  generalize cc % 64 = y at *
  generalize c % 64 = z at *
  generalize hb0 : 224 + x = b0 at *
  generalize hb1 : 128 + y = b1 at *
  generalize hb2 : 128 + z = b2 at *
  have j1 : 224 ≤ b0 := by omega
  have j2 : b0 ≤ 239 := by omega
  have j3 : 128 ≤ b1 := by omega
  have j4 : b1 ≤ 191 := by omega
  have j5 : b0 = 224 → 160 ≤ b1 := by omega
  have j6 : b0 = 237 → b1 ≤ 159 := by omega
  clear hb0 hb1 hb2 r6 r7
  by_cases e0 : b0 = 224
  · have j7 := j5 e0
    clear j5 j6
    subst e0
    go_enter Tryf.func14, Tryf.ntmps14
    go_wp2_with fail
    refine (HC.out _).mono ?_
    rintro e w' ⟨rfl, rfl⟩
    dsimp only
    go_upto_region 17 with fail
    go_region
    all_goals
      go_wp2_with fail
      go_ret3
      exact ⟨rfl, by first | exact Kept.refl _ | exact (Kept.refl _).drew⟩
  by_cases e1 : b0 = 237
  · have j7 := j6 e1
    clear j5 j6
    subst e1
    go_enter Tryf.func14, Tryf.ntmps14
    go_wp2_with fail
    refine (HC.out _).mono ?_
    rintro e w' ⟨rfl, rfl⟩
    dsimp only
    go_upto_region 17 with fail
    go_region
    all_goals
      go_wp2_with fail
      go_ret3
      exact ⟨rfl, by first | exact Kept.refl _ | exact (Kept.refl _).drew⟩
  · have k1 : (b0 == 224) = false := by simpa using e0
    have k2 : (b0 == 237) = false := by simpa using e1
    clear j5 j6
    go_enter Tryf.func14, Tryf.ntmps14
    go_wp2_with fail
    refine (HC.out _).mono ?_
    rintro e w' ⟨rfl, rfl⟩
    dsimp only
    go_upto_region 17 with fail
    go_region
    all_goals
      go_wp2_with fail
      go_ret3
      exact ⟨rfl, by first | exact Kept.refl _ | exact (Kept.refl _).drew⟩
set_option maxRecDepth 100000 in
set_option maxHeartbeats 16000000 in
theorem dec4 (S : ByteArray) (B : List Int) (hs : Str S B) (i : Nat) (w : World) (c : Int) (h0 : 65536 ≤ c) (h1 : c < 1114112) (hb0 : B[i]? = some (240 + c / 262144)) (hb1 : B[i + 1]? = some (128 + c / 4096 % 64)) (hb2 : B[i + 2]? = some (128 + c / 64 % 64)) (hb3 : B[i + 3]? = some (128 + c % 64)) (hl : B.length ≤ 1099511627776) : Calls Tryf.prog 14 #[.string S, .int .i64 (i : Int)] w (Dec c 4 w) := by
  have x0 := hs.2 i _ hb0
  have x1 := hs.2 (i + 1) _ hb1
  have x2 := hs.2 (i + 2) _ hb2
  have x3 := hs.2 (i + 3) _ hb3
  have hsz : S.size = B.length := hs.1
  have hlt := (List.getElem?_eq_some_iff.1 hb3).1
  have l0 := lead4 c h0 h1
  have l1 := tail6 (c / 4096 % 64) (by omega) (by omega)
  have l2 := tail6 (c / 64 % 64) (by omega) (by omega)
  have l3 := tail6 (c % 64) (by omega) (by omega)
  have l4 := join4a c (by omega) (by omega)
  have l5 := join4b c (by omega) (by omega)
  have l6 := join6 c (by omega) (by omega)
  have HC2 := Lib.hid (isCont (128 + c / 64 % 64) (by omega) (by omega))
  have HC3 := Lib.hid (isCont (128 + c % 64) (by omega) (by omega))
  have r0 : 0 ≤ c / 262144 ∧ c / 262144 ≤ 4 ∧ 0 ≤ c / 4096 % 64 ∧ c / 4096 % 64 < 64 ∧ 0 ≤ c / 64 % 64 ∧ c / 64 % 64 < 64 ∧ 0 ≤ c % 64 ∧ c % 64 < 64 ∧ (c / 262144 = 0 → 16 ≤ c / 4096 % 64) ∧ (c / 262144 = 4 → c / 4096 % 64 < 16) ∧ 0 ≤ c / 64 ∧ c / 64 < 20000 ∧ 0 ≤ c / 4096 ∧ c / 4096 < 300 := by omega
  obtain ⟨r0, r1, r2, r3, r4, r5, r6, r7, r8, r9, r10, r11, r12, r13⟩ := r0
  rw [show ((i + 1 : Nat) : Int) = (i : Int) + 1 from rfl] at x1
  rw [show ((i + 2 : Nat) : Int) = (i : Int) + 2 from rfl] at x2
  rw [show ((i + 3 : Nat) : Int) = (i : Int) + 3 from rfl] at x3
  clear hs hb0 hb1 hb2 hb3
  generalize B.length = n at *
  have i1 : (i : Int) + 3 < (n : Int) := by omega
  generalize hz : c / 64 = cc at *
  clear hz
  generalize hz : c / 4096 = cd at *
  clear hz
  generalize c / 262144 = x at *
  generalize cd % 64 = y at *
  generalize cc % 64 = z at *
  generalize c % 64 = v at *
  generalize hb0 : 240 + x = b0 at *
  generalize hb1 : 128 + y = b1 at *
  generalize hb2 : 128 + z = b2 at *
  generalize hb3 : 128 + v = b3 at *
  have j1 : 240 ≤ b0 := by omega
  have j2 : b0 ≤ 244 := by omega
  have j3 : 128 ≤ b1 := by omega
  have j4 : b1 ≤ 191 := by omega
  have j5 : b0 = 240 → 144 ≤ b1 := by omega
  have j6 : b0 = 244 → b1 ≤ 143 := by omega
  clear hb0 hb1 hb2 hb3 r8 r9
  by_cases e0 : b0 = 240
  · have j7 := j5 e0
    clear j5 j6
    subst e0
    go_enter Tryf.func14, Tryf.ntmps14
    go_wp2_with fail
    refine (HC2.out _).mono ?_
    rintro e w' ⟨rfl, rfl⟩
    dsimp only
    go_wp2_with fail
    refine (HC3.out _).mono ?_
    rintro e w' ⟨rfl, rfl⟩
    dsimp only
    go_upto_region 27 with fail
    go_region
    all_goals
      go_wp2_with fail
      go_ret3
      exact ⟨rfl, by first | exact Kept.refl _ | exact (Kept.refl _).drew⟩
  by_cases e1 : b0 = 244
  · have j7 := j6 e1
    clear j5 j6
    subst e1
    go_enter Tryf.func14, Tryf.ntmps14
    go_wp2_with fail
    refine (HC2.out _).mono ?_
    rintro e w' ⟨rfl, rfl⟩
    dsimp only
    go_wp2_with fail
    refine (HC3.out _).mono ?_
    rintro e w' ⟨rfl, rfl⟩
    dsimp only
    go_upto_region 27 with fail
    go_region
    all_goals
      go_wp2_with fail
      go_ret3
      exact ⟨rfl, by first | exact Kept.refl _ | exact (Kept.refl _).drew⟩
  · have k1 : (b0 == 240) = false := by simpa using e0
    have k2 : (b0 == 244) = false := by simpa using e1
    clear j5 j6
    go_enter Tryf.func14, Tryf.ntmps14
    go_wp2_with fail
    refine (HC2.out _).mono ?_
    rintro e w' ⟨rfl, rfl⟩
    dsimp only
    go_wp2_with fail
    refine (HC3.out _).mono ?_
    rintro e w' ⟨rfl, rfl⟩
    dsimp only
    go_upto_region 27 with fail
    go_region
    all_goals
      go_wp2_with fail
      go_ret3
      exact ⟨rfl, by first | exact Kept.refl _ | exact (Kept.refl _).drew⟩
end Go.Proofs.YteoeiklojidgnaaFmt.ur
