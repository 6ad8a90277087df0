/-
  The walk of FnSaveRestoreCarriesStartsAcrossText: Saving and restoring at once changes no start; after printing any text a restore carries every start at the old end to the new end and leaves the others, and saving again shows at least the saved bits.
  Conditions: none beyond those of the given statement Rows.FnSaveRestoreCarriesStartsAcrossTextSaid.
-/
import Derived.Test.YtgoffcpchgepeaaRows
import Derived.WalkKit
import Derived.ProofKit
import Derived.OpenShut
import Derived.ShutString
import Derived.ChangeOld
import Derived.Below
import Derived.Test.YtgoffcpchgepeaaSave
import Derived.Test.YtgoffcpchgepeaaClone69
namespace Go.Proofs.Ytgoffcpchgepeaa.fnSaveRestoreCarriesStartsAcrossText
open Go.ChangeShapes Go.WideShapes Go.ChangeAt Go.RowKit
open Go.ChangeMaps (open_string shut_string)
set_option linter.unusedVariables false


/-- WHAT THE WALK IS TOLD OF A SLICE OF INTEGERS THAT CAME IN: it is nil; or it leads to a row of 'cap' cells, the numbers 'zs' (the first 'len' are its elements, the rest its spare room), each fitting its kind. -/
def IsRow (k : IntKind) (w : World) (a : Option Addr) (len cap : Nat) (zs : List Int) : Prop :=
  (a = none ∧ len = 0 ∧ cap = 0 ∧ zs = []) ∨
  ∃ x, a = some x ∧ len ≤ cap ∧ cap ≤ maxLen ∧ zs.length = cap ∧ (∀ i, i < zs.length → w.cell? (x.add i) = some (.int k (zs.getD i 0))) ∧ ∀ n ∈ zs, (Lit.int k n).wf = true

open kit pr starts save
theorem bytes_ok (A : Option Addr) (n cap : Nat) (s : ByteArray) (s0 s1 s2 s3 : Int) (w : World) (hn : n + s.size ≤ 1048576) :
    Calls Try.prog 51 #[.slice A n cap, .string s, .int .i64 s0, .int .i64 s1, .int .i64 s2, .int .i64 s3] w fun e w' => e = .returned (.bool true) ∧ w = w' := by
  go_enter Try.func51, Try.ntmps51
  go_wp2
  go_ret
  exact ⟨rfl, rfl⟩
theorem bytes_no (A : Option Addr) (n cap : Nat) (s : ByteArray) (s0 s1 s2 s3 : Int) (w : World) (hn : 1048576 < n + s.size) (h1 : n ≤ 9223372036854775807) (h2 : s.size ≤ 9223372036854775807) :
    Calls Try.prog 51 #[.slice A n cap, .string s, .int .i64 s0, .int .i64 s1, .int .i64 s2, .int .i64 s3] w fun e w' => e = .returned (.bool false) ∧ w = w' := by
  by_cases c1 : 1048576 < n
  · go_enter Try.func51, Try.ntmps51
    go_wp2
    go_ret
    exact ⟨rfl, rfl⟩
  by_cases c2 : 1048576 < s.size
  · go_enter Try.func51, Try.ntmps51
    go_wp2
    go_ret
    exact ⟨rfl, rfl⟩
  · go_enter Try.func51, Try.ntmps51
    go_wp2
    go_ret
    exact ⟨rfl, rfl⟩

theorem upd_self (n : Nat) (s : Int) : upd (s == (n : Int)) n s = s := by
  unfold upd
  by_cases h : s = (n : Int)
  · rw [if_pos (by simpa using h)]; exact h.symm
  · rw [if_neg (by simpa using h)]
/-- where a start lies behind the text -/
def moved (n m : Nat) (s : Int) : Int := upd (s == (n : Int)) m s
theorem moved_bit (n m : Nat) (s : Int) : (s == (n : Int)) = true → (moved n m s == (m : Int)) = true := by
  intro h
  unfold moved upd
  rw [h]
  simp
theorem moved_eq {n m : Nat} {s : Int} (h : s = (n : Int)) : moved n m s = (m : Int) := by unfold moved upd; rw [if_pos (by simpa using h)]
theorem moved_ne {n m : Nat} {s : Int} (h : ¬ s = (n : Int)) : moved n m s = s := by unfold moved upd; rw [if_neg (by simpa using h)]

theorem Pr_of_St {w w2 : World} {g : Nat} {cs cs2 : List Value} {a : Option Addr} {c : Nat} {xs : List Int} {s0 s1 s2 s3 : Int} (h : Pr w g cs a c xs) (hst : St w2 g cs2 a xs.length c s0 s1 s2 s3) (hs : Step w w2 g none none) : Pr w2 g cs2 a c xs := by
  refine ⟨hst.blk, hst.js, ?_⟩
  have hne := h.blk.notOwned h.own (by decide)
  refine ⟨h.own.1, ?_⟩
  rcases h.own.2 with e | ⟨q, cap, cur, e1, e2, hh, r⟩
  · exact Or.inl e
  · refine Or.inr ⟨q, cap, cur, e1, e2, ?_, r⟩
    have hq : q ≠ g := fun e => hne (by rw [e1]; simp [Value.ownBlock, e])
    have hlt : q < w.heap.size := by
      apply Classical.byContradiction
      intro hn
      rw [Array.getElem?_eq_none (by omega)] at hh
      cases hh
    exact (hs.block q hlt hq (by simp)).trans hh

set_option maxRecDepth 100000 in
set_option maxHeartbeats 8000000 in
theorem main (A : Option Addr) (n cap : Nat) (xs : List Int) (s : ByteArray) (s0 s1 s2 s3 : Int) (w : World) (hr : Row w A n cap (xs.map (Value.int .u8))) (hn : n ≤ 524288) (hsz : s.size ≤ 524288) :
    Calls Try.prog 10 #[.slice A n cap, .string s, .int .i64 s0, .int .i64 s1, .int .i64 s2, .int .i64 s3] w fun e w' => e = .returned (.bool true) ∧ Below w.heap.size w w' := by
  have hlen : xs.length = n := by simpa using hr.1
  have HR := Lib.hid hr
  have HL := Lib.hid hlen
  clear hr hlen
  have d1 : decide (524288 < (n : Int)) = false := by simp; omega
  have d2 : decide (524288 < (s.size : Int)) = false := by simp; omega
  go_enter Try.func10, Try.ntmps10
  go_wp2_with fail
  refine (bytes_ok A n cap s s0 s1 s2 s3 w (by omega)).mono ?_
  rintro e w' ⟨rfl, rfl⟩
  go_wp2_with fail
  refine (clone69.run A n cap xs w HR.out (by omega)).mono ?_
  rintro e w1 ⟨a1, rfl, hown1, _, hk1⟩
  have O1 := Lib.hid hown1
  have K1 := Lib.hid hk1
  clear hown1 hk1
  go_wp2_with fail
  refine (new69 w1 a1 n n s0 s1 s2 s3).mono ?_
  rintro e w2 ⟨cs1, rfl, hp, hk⟩
  have P2 := Lib.hid hp
  have K2 := Lib.hid hk
  have hpr : Pr w2 w1.heap.size cs1 a1 n xs := by
    refine ⟨hp.blk, ?_, ?_⟩
    · rw [HL.out]; exact hp.js
    · rw [HL.out]; exact own_mono (own_kept O1.out hk) (Nat.zero_le _)
  have PR2 := Lib.hid hpr
  clear hp hk hpr
  have hg : w1.heap.size < w2.heap.size := P2.out.blk.lt
  go_wp2_with fail
  refine (zzsave w2 w1.heap.size cs1 a1 n n s0 s1 s2 s3 P2.out (by omega)).mono ?_
  rintro e w' ⟨rfl, rfl⟩
  have hfb := flags_bound (s0 == (n : Int)) (s1 == (n : Int)) (s2 == (n : Int)) (s3 == (n : Int))
  have B0 := Lib.hid (flags_bit0 (s0 == (n : Int)) (s1 == (n : Int)) (s2 == (n : Int)) (s3 == (n : Int)))
  have B1 := Lib.hid (flags_bit1 (s0 == (n : Int)) (s1 == (n : Int)) (s2 == (n : Int)) (s3 == (n : Int)))
  have B2 := Lib.hid (flags_bit2 (s0 == (n : Int)) (s1 == (n : Int)) (s2 == (n : Int)) (s3 == (n : Int)))
  have B3 := Lib.hid (flags_bit3 (s0 == (n : Int)) (s1 == (n : Int)) (s2 == (n : Int)) (s3 == (n : Int)))
  have AND := Lib.hid (fun a0 a1 a2 a3 => flags_and a0 a1 a2 a3 (s0 == (n : Int)) (s1 == (n : Int)) (s2 == (n : Int)) (s3 == (n : Int)))
  generalize flagsOf (s0 == (n : Int)) (s1 == (n : Int)) (s2 == (n : Int)) (s3 == (n : Int)) = F at *
  go_wp2_with fail
  refine (zzrestore w2 w1.heap.size cs1 a1 n n s0 s1 s2 s3 F P2.out hfb.1 hfb.2 (by omega)).mono ?_
  rintro e w3 ⟨cs2, rfl, hp, hs⟩
  rw [B0.out, B1.out, B2.out, B3.out, upd_self, upd_self, upd_self, upd_self] at hp
  have P3 := Lib.hid hp
  have S3 := Lib.hid hs
  have hst3 : St w3 w1.heap.size cs2 a1 xs.length n s0 s1 s2 s3 := by rw [HL.out]; exact hp
  have PR3 := Lib.hid (Pr_of_St PR2.out hst3 hs)
  clear hp hs hst3
  go_wp2_with fail
  refine (starts69 w3 w1.heap.size cs2 a1 n n s0 s1 s2 s3 P3.out).mono ?_
  rintro e w4 ⟨rfl, hk4⟩
  have K4 := Lib.hid hk4
  clear hk4
  have q0 : (s0 != s0) = false := by simp
  have q1 : (s1 != s1) = false := by simp
  have q2 : (s2 != s2) = false := by simp
  have q3 : (s3 != s3) = false := by simp
  go_wp2_with fail
  refine (zzprint w4 w1.heap.size cs2 a1 n xs s (PR3.out.kept K4.out) (by have := HL.out; omega)).mono ?_
  rintro e w5 ⟨a2, c2, rfl, hp, hs⟩
  have hml : (xs ++ bytesOf s).length = n + s.size := by rw [List.length_append, HL.out, bytesOf_length]
  have hst5 : St w5 w1.heap.size (cs2.set J (.slice a2 (xs ++ bytesOf s).length c2)) a2 (n + s.size) c2 s0 s1 s2 s3 := by
    refine ⟨hp.blk, hp.js.trans (by rw [hml]), ?_, ?_, ?_, ?_⟩
    · rw [List.getElem?_set_ne (by decide)]; exact P3.out.c0
    · rw [List.getElem?_set_ne (by decide)]; exact P3.out.c1
    · rw [List.getElem?_set_ne (by decide)]; exact P3.out.c2
    · rw [List.getElem?_set_ne (by decide)]; exact P3.out.c3
  have S5 := Lib.hid hs
  have P5 := Lib.hid hst5
  have hm : n + s.size ≤ 1048576 := by omega
  clear hp hs hst5
  generalize cs2.set J (.slice a2 (xs ++ bytesOf s).length c2) = cs3 at *
  go_wp2_with fail
  refine (zzrestore w5 w1.heap.size cs3 a2 (n + s.size) c2 s0 s1 s2 s3 F P5.out hfb.1 hfb.2 (by omega)).mono ?_
  rintro e w6 ⟨cs4, rfl, hp, hs⟩
  rw [B0.out, B1.out, B2.out, B3.out] at hp
  have P6 : Hid (St w6 w1.heap.size cs4 a2 (n + s.size) c2 (moved n (n + s.size) s0) (moved n (n + s.size) s1) (moved n (n + s.size) s2) (moved n (n + s.size) s3)) := hp
  have S6 := Lib.hid hs
  clear hp hs
  go_wp2_with fail
  refine (starts69 w6 w1.heap.size cs4 a2 (n + s.size) c2 _ _ _ _ P6.out).mono ?_
  rintro e w7 ⟨rfl, hk7⟩
  have K7 := Lib.hid hk7
  clear hk7
  have hbel : Below w.heap.size w w7 := by
    have l1 := K1.out.size
    have l2 := K2.out.size
    have l3 := S3.out.size
    have l4 := K4.out.size
    have l5 := S5.out.size
    have l6 := S6.out.size
    have b2 : Below w.heap.size w w2 := (K1.out.trans K2.out).below
    have b3 := Below.trans b2 (S3.out.below (B := w.heap.size) l1 (fun k hk => by simp at hk) (by omega))
    have b4 := Below.trans b3 (K4.out.below.mono (by omega))
    have b5 := Below.trans b4 (S5.out.below (B := w.heap.size) l1 (fun k hk => (own_lt O1.out k hk).1) (by omega))
    have b6 := Below.trans b5 (S6.out.below (B := w.heap.size) l1 (fun k hk => by simp at hk) (by omega))
    exact Below.trans b6 (K7.out.below.mono (by omega))
  have BE := Lib.hid hbel
  clear hbel
  have t0 := Lib.hid (moved_bit n (n + s.size) s0)
  have t1 := Lib.hid (moved_bit n (n + s.size) s1)
  have t2 := Lib.hid (moved_bit n (n + s.size) s2)
  have t3 := Lib.hid (moved_bit n (n + s.size) s3)
  have v0e := Lib.hid (@moved_eq n (n + s.size) s0)
  have v1e := Lib.hid (@moved_eq n (n + s.size) s1)
  have v2e := Lib.hid (@moved_eq n (n + s.size) s2)
  have v3e := Lib.hid (@moved_eq n (n + s.size) s3)
  have v0n := Lib.hid (@moved_ne n (n + s.size) s0)
  have v1n := Lib.hid (@moved_ne n (n + s.size) s1)
  have v2n := Lib.hid (@moved_ne n (n + s.size) s2)
  have v3n := Lib.hid (@moved_ne n (n + s.size) s3)
  generalize moved n (n + s.size) s0 = m0 at *
  generalize moved n (n + s.size) s1 = m1 at *
  generalize moved n (n + s.size) s2 = m2 at *
  generalize moved n (n + s.size) s3 = m3 at *
  go_wp2
  go_loop [23] (fun t => ∃ k : Nat, k ≤ 4 ∧ t = .int .i64 (k : Int)) (fun t => 4 - (intOf t).toNat)
  case atStart => exact ⟨0, by omega, rfl⟩
  case round =>
    obtain ⟨k, hk, rfl⟩ := hrel
    by_cases hlt : k < 4
    · have hk4 : k = 0 ∨ k = 1 ∨ k = 2 ∨ k = 3 := by omega
      rcases hk4 with rfl | rfl | rfl | rfl
      · by_cases he : s0 = (n : Int)
        · have f1 : (s0 == (n : Int)) = true := by simpa using he
          have f2 : m0 = (n : Int) + (s.size : Int) := by rw [v0e.out he]; omega
          have f3 : (m0 != (n : Int) + (s.size : Int)) = false := by simp [f2]
          clear he f2
          go_wp2
          go_round
          case rel => exact ⟨1, by omega, rfl⟩
          case measure => simp [intOf]
        · have f1 : (s0 == (n : Int)) = false := by simpa using he
          have f2 : (m0 != s0) = false := by simp [v0n.out he]
          clear he
          go_wp2
          go_round
          case rel => exact ⟨1, by omega, rfl⟩
          case measure => simp [intOf]
      · by_cases he : s1 = (n : Int)
        · have f1 : (s1 == (n : Int)) = true := by simpa using he
          have f2 : m1 = (n : Int) + (s.size : Int) := by rw [v1e.out he]; omega
          have f3 : (m1 != (n : Int) + (s.size : Int)) = false := by simp [f2]
          clear he f2
          go_wp2
          go_round
          case rel => exact ⟨2, by omega, rfl⟩
          case measure => simp [intOf]
        · have f1 : (s1 == (n : Int)) = false := by simpa using he
          have f2 : (m1 != s1) = false := by simp [v1n.out he]
          clear he
          go_wp2
          go_round
          case rel => exact ⟨2, by omega, rfl⟩
          case measure => simp [intOf]
      · by_cases he : s2 = (n : Int)
        · have f1 : (s2 == (n : Int)) = true := by simpa using he
          have f2 : m2 = (n : Int) + (s.size : Int) := by rw [v2e.out he]; omega
          have f3 : (m2 != (n : Int) + (s.size : Int)) = false := by simp [f2]
          clear he f2
          go_wp2
          go_round
          case rel => exact ⟨3, by omega, rfl⟩
          case measure => simp [intOf]
        · have f1 : (s2 == (n : Int)) = false := by simpa using he
          have f2 : (m2 != s2) = false := by simp [v2n.out he]
          clear he
          go_wp2
          go_round
          case rel => exact ⟨3, by omega, rfl⟩
          case measure => simp [intOf]
      · by_cases he : s3 = (n : Int)
        · have f1 : (s3 == (n : Int)) = true := by simpa using he
          have f2 : m3 = (n : Int) + (s.size : Int) := by rw [v3e.out he]; omega
          have f3 : (m3 != (n : Int) + (s.size : Int)) = false := by simp [f2]
          clear he f2
          go_wp2
          go_round
          case rel => exact ⟨4, by omega, rfl⟩
          case measure => simp [intOf]
        · have f1 : (s3 == (n : Int)) = false := by simpa using he
          have f2 : (m3 != s3) = false := by simp [v3n.out he]
          clear he
          go_wp2
          go_round
          case rel => exact ⟨4, by omega, rfl⟩
          case measure => simp [intOf]
    · obtain rfl : k = 4 := by omega
      have hst7 := (P6.out.kept K7.out).kept (((Kept.refl w7).alloc (.cells #[.int .i64 m0, .int .i64 m1, .int .i64 m2, .int .i64 m3] 62)).alloc (.cells #[.int .i64 s0, .int .i64 s1, .int .i64 s2, .int .i64 s3] 62))
      have P7 := Lib.hid hst7
      clear hst7
      have lne : (((n + s.size : Nat) : Int) != (n : Int) + (s.size : Int)) = false := by simp
      have lne2 : ((n : Int) + (s.size : Int) != (n : Int) + (s.size : Int)) = false := by simp
      go_wp2_with fail
      refine (zzjs _ w1.heap.size cs4 a2 (n + s.size) c2 P7.out.blk P7.out.js).mono ?_
      rintro e w' ⟨rfl, rfl⟩
      go_wp2_with fail
      refine (zzsave _ w1.heap.size cs4 a2 (n + s.size) c2 m0 m1 m2 m3 P7.out (by omega)).mono ?_
      rintro e w' ⟨rfl, rfl⟩
      have ha := AND.out (m0 == ((n + s.size : Nat) : Int)) (m1 == ((n + s.size : Nat) : Int)) (m2 == ((n + s.size : Nat) : Int)) (m3 == ((n + s.size : Nat) : Int)) t0.out t1.out t2.out t3.out
      generalize flagsOf (m0 == ((n + s.size : Nat) : Int)) (m1 == ((n + s.size : Nat) : Int)) (m2 == ((n + s.size : Nat) : Int)) (m3 == ((n + s.size : Nat) : Int)) = G at *
      go_wp2
      go_ret
      exact ⟨by simp, (BE.out.alloc BE.out.size _).alloc (by have := BE.out.size; simp; omega) _⟩

theorem walk (a0 : Option Addr) (len0 cap0 : Nat) (z0 : List Int) (a1 : ByteArray) (a2 : Int) (a3 : Int) (a4 : Int) (a5 : Int) (w : World) (w0 : IsRow .u8 w a0 len0 cap0 z0) (w1 : a1.size ≤ maxLen) (w2 : (Lit.int .i64 a2).wf = true) (w3 : (Lit.int .i64 a3).wf = true) (w4 : (Lit.int .i64 a4).wf = true) (w5 : (Lit.int .i64 a5).wf = true) :
    Calls Try.prog 10 #[.slice a0 len0 cap0, .string a1, .int .i64 a2, .int .i64 a3, .int .i64 a4, .int .i64 a5] w fun e w' => e = .returned (.bool true) ∧ Below w.heap.size w w' := by
  have hrow : Row w a0 len0 cap0 ((z0.take len0).map (Value.int .u8)) := by
    rcases w0 with ⟨rfl, rfl, rfl, rfl⟩ | ⟨x, rfl, hl, hm, hz, hcell, hwz⟩
    · exact Row.nil w
    · exact Row.of_cells hl hm hz hcell
  have hml : len0 ≤ 9223372036854775807 := by
    have h1 := hrow.2.1; have h2 := hrow.2.2.1; unfold maxLen at h2; omega
  have hms : a1.size ≤ 9223372036854775807 := by unfold maxLen at w1; omega
  have HR := Lib.hid hrow
  clear w2 w3 w4 w5 w0 w1 hrow
  by_cases c1 : 1048576 < len0 + a1.size
  · go_enter Try.func10, Try.ntmps10
    go_wp2_with fail
    refine (bytes_no a0 len0 cap0 a1 a2 a3 a4 a5 w c1 hml hms).mono ?_
    rintro e w' ⟨rfl, rfl⟩
    go_wp2
    go_ret
    exact ⟨rfl, Below.refl _ _⟩
  by_cases c2 : 524288 < len0
  · go_enter Try.func10, Try.ntmps10
    go_wp2_with fail
    refine (bytes_ok a0 len0 cap0 a1 a2 a3 a4 a5 w (by omega)).mono ?_
    rintro e w' ⟨rfl, rfl⟩
    go_wp2
    go_ret
    exact ⟨rfl, Below.refl _ _⟩
  by_cases c3 : 524288 < a1.size
  · go_enter Try.func10, Try.ntmps10
    go_wp2_with fail
    refine (bytes_ok a0 len0 cap0 a1 a2 a3 a4 a5 w (by omega)).mono ?_
    rintro e w' ⟨rfl, rfl⟩
    go_wp2
    go_ret
    exact ⟨rfl, Below.refl _ _⟩
  exact main a0 len0 cap0 _ a1 a2 a3 a4 a5 w HR.out (by omega) (by omega)
end Go.Proofs.Ytgoffcpchgepeaa.fnSaveRestoreCarriesStartsAcrossText
