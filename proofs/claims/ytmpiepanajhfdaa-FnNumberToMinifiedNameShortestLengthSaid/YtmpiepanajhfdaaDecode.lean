/-
  Contracts of zzIndexOfByte and zzDecodeJS over this seat's program.
  Conditions: the byte occurs in the alphabet; the name is one that the numeral gives.
-/
import Derived.Test.YtmpiepanajhfdaaNames
import Derived.LoopTactic
namespace Go.Proofs.Ytmpiepanajhfdaa.decode
open Go.ChangeShapes Go.WideShapes Go.ChangeAt Go.RowKit
open kit bld names

theorem index (s : ByteArray) (c : UInt8) (k : Nat) (hk : k < s.size) (hm : s.size ≤ 1000) (he : s[k] = c) (hne : ∀ j (h : j < k), s[j] ≠ c) (w : World) :
    Calls Try.prog 33 #[.string s, .int .u8 (c.toNat : Int)] w fun e w' => e = .returned (.int .i64 (k : Int)) ∧ w = w' := by
  have HE := Lib.hid he
  have HN := Lib.hid hne
  clear he hne
  go_enter Try.func33, Try.ntmps33
  go_wp2
  go_loop [5] (fun t => ∃ j : Nat, j ≤ k ∧ t = .int .i64 (j : Int)) (fun t => s.size - (intOf t).toNat)
  case atStart => exact ⟨0, by omega, rfl⟩
  case round =>
    obtain ⟨j, hj, rfl⟩ := hrel
    have hlt : j < s.size := by omega
    by_cases hjk : j < k
    · have e1 : ((s[j].toNat : Int) == (c.toNat : Int)) = false := by
        have := HN.out j hjk
        simp only [beq_eq_false_iff_ne, ne_eq]
        intro h
        exact this (UInt8.toNat_inj.1 (by exact_mod_cast h))
      go_wp2
      go_round
      case rel => exact ⟨j + 1, by omega, by go_num⟩
      case measure => simp [intOf]; omega
    · obtain rfl : j = k := by omega
      have e1 : ((s[j].toNat : Int) == (c.toNat : Int)) = true := by
        have := HE.out
        rw [this]; simp
      go_wp2
      go_ret
      exact ⟨rfl, rfl⟩
def jsHead : ByteArray := ⟨#[97, 98, 99, 100, 101, 102, 103, 104, 105, 106, 107, 108, 109, 110, 111, 112, 113, 114, 115, 116, 117, 118, 119, 120, 121, 122, 65, 66, 67, 68, 69, 70, 71, 72, 73, 74, 75, 76, 77, 78, 79, 80, 81, 82, 83, 84, 85, 86, 87, 88, 89, 90, 95, 36]⟩
def jsTail : ByteArray := ⟨#[97, 98, 99, 100, 101, 102, 103, 104, 105, 106, 107, 108, 109, 110, 111, 112, 113, 114, 115, 116, 117, 118, 119, 120, 121, 122, 65, 66, 67, 68, 69, 70, 71, 72, 73, 74, 75, 76, 77, 78, 79, 80, 81, 82, 83, 84, 85, 86, 87, 88, 89, 90, 48, 49, 50, 51, 52, 53, 54, 55, 56, 57, 95, 36]⟩
theorem head_size : jsHead.size = 54 := rfl
theorem tail_size : jsTail.size = 64 := rfl
theorem head_nodup : jsHead.data.toList.Nodup := by decide +kernel
theorem tail_nodup : jsTail.data.toList.Nodup := by decide +kernel

/-- in an alphabet without repeats a character's first place is its own -/
theorem index_own (s : ByteArray) (hn : s.data.toList.Nodup) (hm : s.size ≤ 1000) (d : Nat) (hd : d < s.size) (c : UInt8) (hc : c = s.data.toList.getD d 0) (w : World) :
    Calls Try.prog 33 #[.string s, .int .u8 (c.toNat : Int)] w fun e w' => e = .returned (.int .i64 (d : Int)) ∧ w = w' := by
  have hl : s.data.toList.length = s.size := by rw [Array.length_toList]; rfl
  have hg : ∀ j (h : j < s.size), s[j] = s.data.toList[j]'(by omega) := fun j h => by rfl
  have hcd : c = s.data.toList[d]'(by omega) := by rw [hc, List.getD_eq_getElem?_getD, List.getElem?_eq_getElem (by omega)]; rfl
  refine index s c d hd hm (by rw [hg d hd, hcd]) (fun j hj e => ?_) w
  rw [hg j (by omega), hcd] at e
  exact (List.pairwise_iff_getElem.1 hn) j d (by omega) (by omega) hj e

set_option maxRecDepth 100000 in
set_option maxHeartbeats 2000000 in
theorem decode (nm : ByteArray) (r n : Nat) (hr : r < 54) (hn : n ≤ 39768215) (hsz : nm.size = (tails jsTail.data.toList n).length + 1) (h16 : nm.size ≤ 16)
    (h0 : nm.data.toList.getD 0 0 = jsHead.data.toList.getD r 0) (hT : ∀ k, nm.data.toList.getD (k + 1) 0 = (tails jsTail.data.toList n).getD k 0) (w : World) :
    Calls Try.prog 11 #[.string nm] w fun e w' => e = .returned (.tuple #[.int .i64 ((r : Int) + 54 * (n : Int)), .bool true]) ∧ w = w' := by
  have hl : nm.data.toList.length = nm.size := by rw [Array.length_toList]; rfl
  have hg : ∀ j (h : j < nm.size), nm[j] = nm.data.toList.getD j 0 := fun j h => by
    have h2 : j < nm.data.toList.length := by omega
    rw [List.getD_eq_getElem?_getD, List.getElem?_eq_getElem h2]
    rfl
  have hp : 0 < nm.size := by omega
  have HG := Lib.hid hg
  have HT := Lib.hid hT
  have HS := Lib.hid hsz
  have H0 := Lib.hid (show nm[0] = jsHead.data.toList.getD r 0 by rw [hg 0 hp]; exact h0)
  have e0 : ((nm.size : Int) == 0) = false := beq_eq_false_iff_ne.2 (by omega)
  clear hg hT hsz hl h0
  go_enter Try.func11, Try.ntmps11
  go_wp2_with fail
  refine (index_own jsHead head_nodup (by rw [head_size]; omega) r (by rw [head_size]; omega) nm[0] H0.out w).mono ?_
  rintro e w' ⟨rfl, rfl⟩
  go_wp2
  go_loop [5, 6, 7] (fun tq tm tk => ∃ k m mult q : Nat, k + 1 ≤ nm.size ∧ tk = .int .i64 ((k : Int) + 1) ∧ tm = .int .i64 (mult : Int) ∧ tq = .int .i64 (q : Int) ∧ mult ≤ 4294967296 ∧ 1 ≤ mult ∧ Hid ((tails jsTail.data.toList n).drop k = tails jsTail.data.toList m) ∧ Hid (q + mult * m = n)) (fun _ _ tk => nm.size - (intOf tk).toNat)
  case atStart => exact ⟨0, n, 1, 0, by omega, rfl, rfl, rfl, by omega, by omega, by simp [Hid], by simp [Hid]⟩
  case round =>
    obtain ⟨k, m, mult, q, hk, rfl, rfl, rfl, hm1, hm2, hdrop, hval⟩ := hrel
    by_cases hlt : k + 1 < nm.size
    · have hkT : k < (tails jsTail.data.toList n).length := by have := HS.out; omega
      obtain ⟨d, rfl⟩ : ∃ d, m = d + 1 := by
        cases m with
        | zero =>
          have h1 := hdrop.out
          rw [tails_zero] at h1
          have := congrArg List.length h1
          rw [List.length_drop] at this
          simp at this
          omega
        | succ d => exact ⟨d, rfl⟩
      have h1 := hdrop.out
      rw [tails_succ, List.drop_eq_getElem_cons hkT] at h1
      injection h1 with h1a h1b
      have hck : nm[k + 1] = jsTail.data.toList.getD (d % 64) 0 := by
        rw [HG.out (k + 1) hlt, HT.out k, List.getD_eq_getElem?_getD, List.getElem?_eq_getElem hkT]
        exact h1a
      have hmul : mult * (d + 1) ≤ 39768215 := by have := hval.out; omega
      have hmul2 : mult ≤ 39768215 := by
        have : mult * 1 ≤ mult * (d + 1) := Nat.mul_le_mul_left _ (by omega)
        omega
      have hq : q ≤ 39768215 := by have := hval.out; omega
      have hprod : (d % 64 + 1) * mult ≤ 39768215 := by
        have : (d % 64 + 1) * mult ≤ (d + 1) * mult := Nat.mul_le_mul_right _ (by omega)
        rw [Nat.mul_comm (d + 1)] at this
        omega
      have hnew : q + (d % 64 + 1) * mult + (mult * 64) * (d / 64) = n := by
        rw [← hval.out]
        have e : d + 1 = (d % 64 + 1) + 64 * (d / 64) := by omega
        rw [e, Nat.mul_add mult, Nat.mul_comm mult (d % 64 + 1), Nat.mul_assoc mult 64]
        omega
      have hpe : (((d % 64 + 1) * mult : Nat) : Int) = ((d % 64 : Nat) + 1 : Int) * (mult : Int) := by rw [Int.natCast_mul]; rfl
      have hp1 : (0 : Int) ≤ ((d % 64 : Nat) + 1 : Int) * (mult : Int) := Int.mul_nonneg (by omega) (by omega)
      have hp2 : ((d % 64 : Nat) + 1 : Int) * (mult : Int) ≤ 39768215 := by rw [← hpe]; omega
      have hp3 : (((q + (d % 64 + 1) * mult : Nat)) : Int) = (q : Int) + ((d % 64 : Nat) + 1 : Int) * (mult : Int) := by rw [← hpe]; omega
      have HN := Lib.hid hnew
      have HP3 := Lib.hid hp3
      have HD := Lib.hid h1b
      have HCK := Lib.hid hck
      have hd64 : d % 64 < 64 := by omega
      clear hdrop hval h1a h1b hnew hp3 hck hmul hprod hpe
      generalize hr2 : d % 64 = r2 at *
      have HR2 := Lib.hid hr2
      clear hr2
      have hlt2 : (k : Int) + 1 < (nm.size : Int) := by omega
      go_wp2_with fail
      refine (index_own jsTail tail_nodup (by rw [tail_size]; omega) r2 (by rw [tail_size]; omega) nm[k + 1] HCK.out w).mono ?_
      rintro e w' ⟨rfl, rfl⟩
      go_wp2
      go_round
      case rel => exact ⟨k + 1, d / 64, mult * 64, q + (r2 + 1) * mult, by omega, by go_num, by go_num, by rw [HP3.out], by omega, by omega, HD.out, HN.out⟩
      case measure => simp [intOf]; omega
    · obtain rfl : m = 0 := by
        have h1 := congrArg List.length hdrop.out
        rw [List.length_drop] at h1
        have := HS.out
        cases m with
        | zero => rfl
        | succ d => rw [tails_succ] at h1; simp at h1; omega
      obtain rfl : q = n := by simpa using hval.out
      have hlt2 : ¬ ((k : Int) + 1 < (nm.size : Int)) := by omega
      go_wp2
      go_ret2
      exact ⟨rfl, rfl⟩
end Go.Proofs.Ytmpiepanajhfdaa.decode
