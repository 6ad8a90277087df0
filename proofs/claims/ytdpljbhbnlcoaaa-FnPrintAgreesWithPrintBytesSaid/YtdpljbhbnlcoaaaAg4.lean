/-
  FnPrintAgreesWithPrintBytes over this seat's program: the whole walk.
  Conditions: none.
-/
import Derived.Test.YtdpljbhbnlcoaaaAg3
import Derived.Deep.DeepCutAuto
namespace Go.Proofs.Ytdpljbhbnlcoaaa.ag
open Go.ChangeShapes Go.WideShapes Go.ChangeAt Go.RowKit
open kit pr

theorem Sep.of_new {w : World} {a1 a2 : Option Addr} (h1 : ∀ k, a1.map (·.block) = some k → k < w.heap.size) (h2 : ∀ k, a2.map (·.block) = some k → w.heap.size ≤ k) : Sep a1 a2 := fun k hk he => by
  have := h1 k hk
  have := h2 k he
  omega
set_option maxRecDepth 100000 in
set_option maxHeartbeats 16000000 in
theorem main (a0 : Option Addr) (m c0 : Nat) (xs : List Int) (a1 : Option Addr) (n c1 : Nat) (ss : List ByteArray) (a2 : Option Addr) (q c2 : Nat) (bs : List Bool) (w : World)
    (h0 : Row w a0 m c0 (xs.map (Value.int .u8))) (h1 : Strs w a1 n ss) (h2 : Bools w a2 q bs) (m1 : n ≤ maxLen) :
    Calls Try.prog 3 #[.slice a0 m c0, .slice a1 n c1, .slice a2 q c2] w fun e w' => e = .returned (.bool true) ∧ Below w.heap.size w w' := by
  have HBY := Lib.hid (bytes5 a0 m c0 a1 n c1 ss a2 q c2 w h1 m1)
  by_cases x0 : 1048576 < m
  · clear m1
    go_enter Try.func3, Try.ntmps3
    go_wp2_with fail
    refine HBY.out.mono ?_
    rintro e w' ⟨⟨b, rfl, _⟩, rfl⟩
    cases b
    · go_wp2_with fail
      go_ret
      exact ⟨rfl, Below.refl _ _⟩
    · go_wp2_with fail
      go_ret
      exact ⟨rfl, Below.refl _ _⟩
  by_cases x1 : 1048576 < q
  · clear m1
    go_enter Try.func3, Try.ntmps3
    go_wp2_with fail
    refine HBY.out.mono ?_
    rintro e w' ⟨⟨b, rfl, _⟩, rfl⟩
    cases b
    · go_wp2_with fail
      go_ret
      exact ⟨rfl, Below.refl _ _⟩
    · go_wp2_with fail
      go_ret
      exact ⟨rfl, Below.refl _ _⟩
  have H0 := Lib.hid h0
  have H1 := Lib.hid h1
  have H2 := Lib.hid h2
  have HLX : Hid (xs.length = m) := Lib.hid (by simpa using h0.1)
  have C0 := Lib.hid (clone80.run a0 m c0 xs w h0 (by omega))
  have M1 := Lib.hid m1
  clear h0 h1 h2 m1
  go_enter Try.func3, Try.ntmps3
  go_wp2_with fail
  refine HBY.out.mono ?_
  rintro e w' ⟨⟨b, rfl, hsz⟩, rfl⟩
  cases b
  · go_wp2_with fail
    go_ret
    exact ⟨rfl, Below.refl _ _⟩
  have HTB := Lib.hid (tooBig (m + q) a1 n c1 ss w H1.out (by omega) M1.out (hsz rfl))
  clear hsz HBY
  rw [show ((m + q : Nat) : Int) = (m : Int) + (q : Int) by omega] at HTB
  go_wp2_with fail
  refine HTB.out.mono ?_
  rintro e w' ⟨⟨b, rfl, hT⟩, rfl⟩
  cases b
  case true =>
    go_wp2_with fail
    go_ret
    exact ⟨rfl, Below.refl _ _⟩
  have HT := Lib.hid (hT rfl)
  clear hT HTB
  go_wp2_with fail
  refine C0.out.mono ?_
  rintro e w1 ⟨p0, rfl, o0, _, k1⟩
  have K1 := Lib.hid k1
  have R1 := Lib.hid (Row.of_own o0)
  have CA := Lib.hid (clone80.run p0 m m xs w1 (Row.of_own o0) (by omega))
  clear o0 k1 C0
  go_wp2_with fail
  refine CA.out.mono ?_
  rintro e w2 ⟨pa, rfl, oa, _, k2⟩
  have LPA : Hid (∀ k, pa.map (·.block) = some k → w1.heap.size ≤ k ∧ k < w2.heap.size) := Lib.hid (own_lt oa)
  have NA := Lib.hid (newP w2 pa m xs (by have := own_mono oa (Nat.zero_le _); rw [HLX.out]; exact this))
  rw [HLX.out] at NA
  have K2 := Lib.hid (K1.out.trans k2)
  have R2 := Lib.hid (R1.out.kept k2)
  clear oa k2 CA
  go_wp2_with fail
  refine NA.out.mono ?_
  rintro e w3 ⟨cs1, rfl, hp1, k3⟩
  have P1 := Lib.hid hp1
  have K3 := Lib.hid (K2.out.trans k3)
  have S3 : Hid (w2.heap.size < w3.heap.size) := Lib.hid hp1.blk.lt
  have CB := Lib.hid (clone80.run p0 m m xs w3 (R2.out.kept k3) (by omega))
  clear hp1 k3 NA
  go_wp2_with fail
  refine CB.out.mono ?_
  rintro e w4 ⟨pb, rfl, ob, _, k4⟩
  have LPB : Hid (∀ k, pb.map (·.block) = some k → w3.heap.size ≤ k ∧ k < w4.heap.size) := Lib.hid (own_lt ob)
  have NB := Lib.hid (newP w4 pb m xs (by have := own_mono ob (Nat.zero_le _); rw [HLX.out]; exact this))
  rw [HLX.out] at NB
  have K4 := Lib.hid (K3.out.trans k4)
  have P14 := Lib.hid (P1.out.kept k4)
  have S4 : Hid (w3.heap.size ≤ w4.heap.size) := Lib.hid k4.size
  clear ob k4 CB
  go_wp2_with fail
  refine NB.out.mono ?_
  rintro e w5 ⟨cs2, rfl, hp2, k5⟩
  have TW : Hid (Two w.heap.size w2.heap.size w4.heap.size w5 (xs ++ cat ss 0) (xs ++ cat ss 0) cs1 pa m cs2 pb m) := by
    have e : xs ++ cat ss 0 = xs := by simp [cat]
    rw [e]
    have s1 := K1.out.size
    have s2 := K2.out.size
    have s3 := K3.out.size
    have s4 := K4.out.size
    have s5 := k5.size
    have t3 := S3.out
    have t4 := S4.out
    refine Lib.hid ⟨P14.out.kept k5, hp2, by omega, ?_, ?_, ?_, ?_, ?_, ?_, ?_, by omega⟩
    · intro k hk he
      have h1 := LPA.out k hk
      have h2 := LPB.out k he
      omega
    · intro he
      have h1 := LPA.out _ he
      omega
    · intro he
      have h1 := LPB.out _ he
      omega
    · intro k hk
      have h1 := LPA.out k hk
      omega
    · intro k hk
      have h1 := LPB.out k hk
      omega
    · omega
    · omega
  have K5 := Lib.hid (K4.out.trans k5)
  have H30 : Hid (Rel w.heap.size w2.heap.size w4.heap.size n w xs ss (.int .i64 0) w5) := Lib.hid ⟨0, Nat.zero_le _, rfl, Lib.hid ⟨K5.out, _, _, _, _, _, _, TW.out⟩⟩
  clear hp2 k5 NB P1 P14 LPA LPB R1 R2 K1 K2 K3 K4 S3 S4 TW H0 K5
  generalize w2.heap.size = g1 at *
  generalize w4.heap.size = g2 at *
  go_wp2_with fail
  go_loopw [9] (fun t9 W => Rel w.heap.size g1 g2 n w xs ss t9 W) (fun t9 _ => n - (intOf t9).toNat)
  case atStart => exact H30.out
  case round =>
    obtain ⟨k, hk, rfl, HB⟩ := hrel
    clear H30
    by_cases hkn : k < n
    · obtain ⟨cs1, b1, d1, cs2, b2, d2, tw⟩ := HB.out.2
      have TW := Lib.hid tw
      have BL := Lib.hid HB.out.1
      clear tw HB
      obtain ⟨tb, off, rfl, htb, htc⟩ := H1.out.1 (by omega)
      have HTC : Hid (∀ W : World, Below w.heap.size w W → W.cell? ⟨tb, off + k, none⟩ = some (.string (ss.getD k ByteArray.empty))) := Lib.hid (fun W hW => (hW.cell (p := ⟨tb, off + k, none⟩) htb).trans (htc k hkn))
      have hki : (k : Int) < (n : Int) := by omega
      have hn20 : (n : Int) ≤ 1048576 := by have := HT.out; omega
      have tc := HTC.out wr BL.out
      have HLN : Hid ((xs ++ cat ss k).length + (ss.getD k ByteArray.empty).size ≤ 70368744177664) := Lib.hid (by
        have h1 := HT.out
        have h2 := sum_mono ss (show k + 1 ≤ n by omega)
        have h3 := HLX.out
        rw [List.length_append, cat_length]
        simp only [sum] at h2
        omega)
      clear htb htc
      generalize hse : ss.getD k ByteArray.empty = s at *
      have HSE := Lib.hid hse
      clear hse
      have HP1 := Lib.hid (zzprint wr g1 cs1 b1 d1 (xs ++ cat ss k) s TW.out.p1 HLN.out)
      go_wp2_with fail
      refine HP1.out.mono ?_
      rintro e w6 hpr
      obtain ⟨a3, c3, rfl, tw6, bl6⟩ := TW.out.first hpr
      have BL6 := Lib.hid (BL.out.trans bl6)
      have T6 := Lib.hid tw6
      have tc6 := HTC.out w6 BL6.out
      clear hpr tw6 bl6 HP1 BL TW tc
      by_cases hkq : k < q
      · obtain ⟨qb, qo, rfl, hqb, hqc⟩ := H2.out (by omega)
        have hkqi : (k : Int) < (q : Int) := by omega
        have qc : w6.cell? ⟨qb, qo + k, none⟩ = some (.bool (bs.getD k false)) := (BL6.out.cell (p := ⟨qb, qo + k, none⟩) hqb).trans (hqc k hkq)
        clear hqb hqc
        cases hbv : bs.getD k false
        · rw [hbv] at qc
          clear hbv
          have HP2 := Lib.hid (zzprint w6 g2 cs2 b2 d2 (xs ++ cat ss k) s T6.out.p2 HLN.out)
          go_wp2_with fail
          refine HP2.out.mono ?_
          rintro e w7 hpr2
          obtain ⟨a5, c5, rfl, tw7, bl7⟩ := T6.out.second hpr2
          have BL7 := Lib.hid (BL6.out.trans bl7)
          have T7 := Lib.hid tw7
          clear hpr2 tw7 bl7
          have HRR : Hid (Rel w.heap.size g1 g2 n w xs ss (.int .i64 ((k : Int) + 1)) w7) := Lib.hid (by
            refine ⟨k + 1, by omega, by go_num, Lib.hid ⟨BL7.out, ?_⟩⟩
            have e : xs ++ cat ss (k + 1) = (xs ++ cat ss k) ++ bytesOf s := by rw [List.append_assoc]; simp only [cat]; rw [HSE.out]
            rw [e]
            exact ⟨_, _, _, _, _, _, T7.out⟩)
          clear HP2
          go_wp2_with fail
          go_roundw
          case rel => first | exact HRR.out | ((repeat apply Exists.intro); exact ⟨HRR.out, rfl⟩)
          case measure => simp [intOf]; omega
        · rw [hbv] at qc
          clear hbv
          have hcv : ∀ W : World, (convert 9 22 (.string s)).run Try.prog W = .ok (.slice (some ⟨W.heap.size, 0, none⟩) s.size (grownCap W s.size 0 5)) (Lib.bytesWorld W 5 s) := fun W => Lib.run_convert_string_bytes W 9 22 5 s Try.underlying9 Try.underlying22 Try.underlying5
          have TB := Lib.hid (T6.out.kept (bytesKept w6 s))
          have HP2 := Lib.hid (zzprintB (Lib.bytesWorld w6 5 s) g2 cs2 b2 d2 (xs ++ cat ss k) ⟨w6.heap.size, 0, none⟩ (grownCap w6 s.size 0 5) (bytesOf s) TB.out.p2 (bytesCell w6 s) (by rw [bytesOf_length]; exact HLN.out))
          rw [bytesOf_length] at HP2
          have BLB : Hid (Below w.heap.size w (Lib.bytesWorld w6 5 s)) := Lib.hid (BL6.out.trans (Below.mono (bytesKept w6 s) BL6.out.size))
          go_wp2_with fail
          refine HP2.out.mono ?_
          rintro e w7 hpr2
          obtain ⟨a5, c5, rfl, tw7, bl7⟩ := TB.out.second hpr2
          have BL7 := Lib.hid (BLB.out.trans bl7)
          have T7 := Lib.hid tw7
          clear hpr2 tw7 bl7 hcv TB BLB
          have HRR : Hid (Rel w.heap.size g1 g2 n w xs ss (.int .i64 ((k : Int) + 1)) w7) := Lib.hid (by
            refine ⟨k + 1, by omega, by go_num, Lib.hid ⟨BL7.out, ?_⟩⟩
            have e : xs ++ cat ss (k + 1) = (xs ++ cat ss k) ++ bytesOf s := by rw [List.append_assoc]; simp only [cat]; rw [HSE.out]
            rw [e]
            exact ⟨_, _, _, _, _, _, T7.out⟩)
          clear HP2
          go_wp2_with fail
          go_roundw
          case rel => first | exact HRR.out | ((repeat apply Exists.intro); exact ⟨HRR.out, rfl⟩)
          case measure => simp [intOf]; omega
      · have hkqi : ¬ (k : Int) < (q : Int) := by omega
        have HP2 := Lib.hid (zzprint w6 g2 cs2 b2 d2 (xs ++ cat ss k) s T6.out.p2 HLN.out)
        go_wp2_with fail
        refine HP2.out.mono ?_
        rintro e w7 hpr2
        obtain ⟨a5, c5, rfl, tw7, bl7⟩ := T6.out.second hpr2
        have BL7 := Lib.hid (BL6.out.trans bl7)
        have T7 := Lib.hid tw7
        clear hpr2 tw7 bl7
        have HRR : Hid (Rel w.heap.size g1 g2 n w xs ss (.int .i64 ((k : Int) + 1)) w7) := Lib.hid (by
          refine ⟨k + 1, by omega, by go_num, Lib.hid ⟨BL7.out, ?_⟩⟩
          have e : xs ++ cat ss (k + 1) = (xs ++ cat ss k) ++ bytesOf s := by rw [List.append_assoc]; simp only [cat]; rw [HSE.out]
          rw [e]
          exact ⟨_, _, _, _, _, _, T7.out⟩)
        clear HP2
        go_wp2_with fail
        go_roundw
        case rel => first | exact HRR.out | ((repeat apply Exists.intro); exact ⟨HRR.out, rfl⟩)
        case measure => simp [intOf]; omega
    · obtain rfl : n = k := by omega
      obtain ⟨cs1, b1, d1, cs2, b2, d2, tw⟩ := HB.out.2
      have TW := Lib.hid tw
      have BL := Lib.hid HB.out.1
      have HLN : Hid ((xs ++ cat ss n).length ≤ 1099511627776) := Lib.hid (by
        have h1 := HT.out
        have h3 := HLX.out
        rw [List.length_append, cat_length]
        omega)
      clear tw HB
      have J1 := Lib.hid (zzjs wr g1 cs1 b1 d1 _ TW.out.p1)
      have J2 := Lib.hid (zzjs wr g2 cs2 b2 d2 _ TW.out.p2)
      have EQ := Lib.hid (eqb80.run b1 (xs ++ cat ss n).length d1 (xs ++ cat ss n) b2 (xs ++ cat ss n).length d2 (xs ++ cat ss n) wr (Row.of_own TW.out.p1.own) (Row.of_own TW.out.p2.own) HLN.out HLN.out)
      rw [eqb80.sameB_self] at EQ
      generalize (xs ++ cat ss n).length = L at *
      go_wp2_with fail
      refine J1.out.mono ?_
      rintro e w' ⟨rfl, rfl⟩
      go_wp2_with fail
      refine J2.out.mono ?_
      rintro e w' ⟨rfl, rfl⟩
      go_wp2_with fail
      refine EQ.out.mono ?_
      rintro e w8 ⟨rfl, k8⟩
      have HF := Lib.hid (Below.trans BL.out (Below.mono k8 BL.out.size))
      clear k8
      go_wp2_with fail
      go_ret
      exact ⟨rfl, HF.out⟩
end Go.Proofs.Ytdpljbhbnlcoaaa.ag
