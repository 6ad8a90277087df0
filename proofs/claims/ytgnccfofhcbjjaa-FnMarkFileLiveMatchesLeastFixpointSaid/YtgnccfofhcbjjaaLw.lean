/-
  A loop of lkB1ModelLive over this seat's program: over a part's records.
  Conditions: the files are readable, fit and are well formed.
-/
import Derived.Test.YtgnccfofhcbjjaaLw0
namespace Go.Proofs.Ytgnccfofhcbjjaa.lk
open Go.ChangeShapes Go.WideShapes Go.ChangeAt Go.RowKit
open kit dfs dst

set_option maxRecDepth 1000000 in
set_option maxHeartbeats 32000000 in
theorem loopE (w wb0 : World) (q1 q2 : Nat) (G : Nat → Nat) (F : Ct) (g : Bool) (s : Nat) (R0 : Nd → Bool) (b off cc i bf : Nat) (BX : List Value) (c0 : Bool) (j bp : Nat) (BP : List Value) (Q0 : Exit → Act → World → Prop) {a1 a3 a4 a5 a6 a7 a11 a19 a20 a21 a22 a23 a24 a25 a26 a27 a28 a29 a30 a31 a32 a33 a34 a35 a36 a37 a38 a39 a40 a41 a42 a43 a44 a45 a46 a47 a48 a49 a50 a51 a52 a53 a54 a55 a56 a57 a58 a59 a60 a61 a62 a63 a64 a65 a66 a67 a68 a69 a70 a71 a72 a73 a74 a75 a76 a77 a78 a79 a80 a81 a82 a83 a84 a85 a86 a87 a88 a89 a90 a91 a92 a93 a94 a95 a96 a97 a98 a99 a100 a101 a102 a103 a104 a105 a106 a107 a108 a109 a110 a111 a112 a113 a114 a115 a116 a117 a118 a119 a120 a121 a122 a123 a124 a125 a126 a127 a128 a129 a130 a131 a132 a133 a134 a135 a136 a137 a138 a139 a140 a141 a142 a143 a144 a145 a146 a147 a148 a149 a150 a151 a152 a153 a154 a155 a156 a157 a158 a159 a160 a161 a162 a163 a164 a165 a166 a167 a168 a169 a170 a171 a172 a173 a174 a175 a176 a177 a178 a179 a180 a181 a182 a183 a184 a185 a186 a187 a188 a189 a190 a191 a192 a193 a194 a195 a196 a197 a198 a199 a200 a201 a202 a203 a204 a205 a206 a207 a208 a209 a210 a211 a212 : Value}
    (hf : FilesC w (.slice (some ⟨b, off, none⟩) F.length cc) F) (hfit : Fits F) (hs : s < F.length) (hq1 : w.heap.size ≤ q1) (hlo : ∀ x, x < F.length → w.heap.size ≤ G x) (hlt : i < F.length)
    (ra pa : Option Addr) (rc pc : Nat) (hbx : BX = [.int .i32 (fl F i).css, .bool (fl F i).side, .bool (fl F i).live, .slice ra (fl F i).recs.length rc, .slice pa (np F i) pc]) (hrc : RecsC w (.slice ra (fl F i).recs.length rc) (fl F i).recs) (hr1 : (fl F i).recs.length ≤ rc) (hr2 : rc ≤ 9223372036854775807) (hr3 : ra = none → (fl F i).recs.length = 0)
    (hlt2 : j < np F i) (ra2 da : Option Addr) (rc2 dc : Nat) (hbp : BP = [.slice ra2 (pp F i j).recs.length rc2, .slice da (pp F i j).deps.length dc, .bool (pp F i j).rem, .bool (pp F i j).force]) (hU : U32sC w (.slice ra2 (pp F i j).recs.length rc2) (pp F i j).recs) (hu1 : (pp F i j).recs.length ≤ rc2) (hu2 : rc2 ≤ 9223372036854775807) (hu3 : ra2 = none → (pp F i j).recs.length = 0)
    (hst : E1 w q1 q2 G F g (.inl s) R0 i j bf bp BX BP (.int .i64 0) (.bool (!(pp F i j).rem)) (.bool c0) wb0)
    (hend : ∀ (z18 z19 z92 z93 z94 z95 z96 z97 z98 z99 z100 z101 z102 z103 z104 z105 z106 z107 z108 z109 z110 z111 z112 z113 z114 z115 z116 z117 z118 z119 z120 z121 z122 z123 z124 z125 z126 z127 z128 z129 z130 z131 z132 z133 z134 z135 t12 t17 : Value) (W : World), EEnd w q1 q2 G F g (.inl s) R0 i j bf BX t17 t12 W → Q0 Exit.normal ⟨#[.slice (some ⟨b, off, none⟩) F.length cc, a1, .bool g, a3, a4, a5, a6, a7, .int .i64 (F.length : Int), .slice (some ⟨q1, 0, none⟩) F.length F.length, .slice (some ⟨q2, 0, none⟩) F.length F.length, a11, t12, .int .i64 (i : Int), .pointer (some ⟨bf, 0, none⟩), .int .i64 (j : Int), .pointer (some ⟨bp, 0, none⟩), t17, z18, z19, a20, a21, a22, a23, a24, a25, a26, a27, a28, a29, a30, a31, a32, a33, a34, a35, a36, a37, a38, a39, a40, a41, a42, a43, a44, a45, a46, a47, a48, a49, a50, a51, a52, a53, a54, a55, a56, a57, a58, a59, a60, a61, a62, a63, a64, a65, a66, a67, a68, a69, a70, a71, a72, a73, a74, a75, a76, a77, a78, a79, a80, a81, a82, a83, a84, a85, a86, a87, a88, a89, a90, a91, z92, z93, z94, z95, z96, z97, z98, z99, z100, z101, z102, z103, z104, z105, z106, z107, z108, z109, z110, z111, z112, z113, z114, z115, z116, z117, z118, z119, z120, z121, z122, z123, z124, z125, z126, z127, z128, z129, z130, z131, z132, z133, z134, z135, a136, a137, a138, a139, a140, a141, a142, a143, a144, a145, a146, a147, a148, a149, a150, a151, a152, a153, a154, a155, a156, a157, a158, a159, a160, a161, a162, a163, a164, a165, a166, a167, a168, a169, a170, a171, a172, a173, a174, a175, a176, a177, a178, a179, a180, a181, a182, a183, a184, a185, a186, a187, a188, a189, a190, a191, a192, a193, a194, a195, a196, a197, a198, a199, a200, a201, a202, a203, a204, a205, a206, a207, a208, a209, a210, a211, a212], []⟩ W) :
    Code.wp Try.prog pieceE Q0 ⟨#[.slice (some ⟨b, off, none⟩) F.length cc, a1, .bool g, a3, a4, a5, a6, a7, .int .i64 (F.length : Int), .slice (some ⟨q1, 0, none⟩) F.length F.length, .slice (some ⟨q2, 0, none⟩) F.length F.length, a11, .bool c0, .int .i64 (i : Int), .pointer (some ⟨bf, 0, none⟩), .int .i64 (j : Int), .pointer (some ⟨bp, 0, none⟩), .bool (!(pp F i j).rem), .int .i64 0, a19, a20, a21, a22, a23, a24, a25, a26, a27, a28, a29, a30, a31, a32, a33, a34, a35, a36, a37, a38, a39, a40, a41, a42, a43, a44, a45, a46, a47, a48, a49, a50, a51, a52, a53, a54, a55, a56, a57, a58, a59, a60, a61, a62, a63, a64, a65, a66, a67, a68, a69, a70, a71, a72, a73, a74, a75, a76, a77, a78, a79, a80, a81, a82, a83, a84, a85, a86, a87, a88, a89, a90, a91, a92, a93, a94, a95, a96, a97, a98, a99, a100, a101, a102, a103, a104, a105, a106, a107, a108, a109, a110, a111, a112, a113, a114, a115, a116, a117, a118, a119, a120, a121, a122, a123, a124, a125, a126, a127, a128, a129, a130, a131, a132, a133, a134, a135, a136, a137, a138, a139, a140, a141, a142, a143, a144, a145, a146, a147, a148, a149, a150, a151, a152, a153, a154, a155, a156, a157, a158, a159, a160, a161, a162, a163, a164, a165, a166, a167, a168, a169, a170, a171, a172, a173, a174, a175, a176, a177, a178, a179, a180, a181, a182, a183, a184, a185, a186, a187, a188, a189, a190, a191, a192, a193, a194, a195, a196, a197, a198, a199, a200, a201, a202, a203, a204, a205, a206, a207, a208, a209, a210, a211, a212], []⟩ wb0 := by
  have HEND := Lib.hid hend
  have HST := Lib.hid hst
  have HF := Lib.hid hf
  have HFIT := Lib.hid hfit
  have HLENS := Lib.hid hfit.lens
  have htop := hfit.top
  have HQ1 := Lib.hid hq1
  have HLO := Lib.hid hlo
  have HBXE := Lib.hid hbx
  have HOK := Lib.hid (hfit.ok i hlt)
  have hnp : np F i ≤ 262144 := (hfit.lens i hlt).2.1
  have hnr : (fl F i).recs.length ≤ 262144 := (hfit.lens i hlt).1
  have i0 : (i : Int) < (F.length : Int) := by omega
  have HRC := Lib.hid hrc
  have HU := Lib.hid hU
  have HBPE := Lib.hid hbp
  have hnu : (pp F i j).recs.length ≤ 262144 := ((hfit.lens i hlt).2.2 j hlt2).1
  have j0 : (j : Int) < (np F i : Int) := by omega
  clear hend hst hf hfit hq1 hlo hbx hrc hU hbp
  conv => arg 2; whnf
  go_wp2_with fail
  go_loopw [18, 17, 12] (fun t18 t17 t12 W => E1 w q1 q2 G F g (.inl s) R0 i j bf bp BX BP t18 t17 t12 W) (fun t18 _ _ _ => (pp F i j).recs.length - (intOf t18).toNat)
  case atStart => exact HST.out
  case round =>
    obtain ⟨k, hk, rfl, ht17, ⟨R4, c4, rfl, hM4, hl4, hb4⟩, hbp4⟩ := hrel
    have HM5 := Lib.hid hM4
    have HL5 := Lib.hid hl4
    have HB5 := Lib.hid hb4
    have HP5 := Lib.hid hbp4
    obtain ⟨b17, hb17⟩ : ∃ b17, b17 = (!(pp F i j).rem || keepQ F g i j k) := ⟨_, rfl⟩
    rw [← hb17] at ht17
    subst ht17
    have HB17 := Lib.hid hb17
    obtain ⟨w8, rfl⟩ : ∃ w8 : World, w8 = wr := ⟨_, rfl⟩
    have z0 : w8.cell? ⟨bp, 0, none⟩ = some (.slice ra2 (pp F i j).recs.length rc2) := by rw [HP5.out.cell, HBPE.out]; rfl
    clear hM4 hl4 hb4 hbp4 hb17
    by_cases hlt3 : k < (pp F i j).recs.length
    · obtain ⟨bu, offu, eu, _, hu⟩ := Sl.at_ HU.out hlt3
      subst eu
      obtain ⟨u0, u1⟩ := hu
      rw [Nat.mul_one] at u0
      have u0 := HM5.out.kept.cell u0
      have y3 : w8.cell? ⟨bf, 3, none⟩ = some (.slice ra (fl F i).recs.length rc) := by rw [HB5.out.cell, HBXE.out]; rfl
      have hidx : nat (pp F i j).recs k < (fl F i).recs.length := HOK.out.idx j hlt2 k hlt3
      obtain ⟨br, offr, er, _, r0, r1, r2, r3, r4, r5⟩ := Sl.at_ HRC.out hidx
      subst er
      have r0 := HM5.out.kept.cell r0
      have r1 := HM5.out.kept.cell r1
      have r2 := HM5.out.kept.cell r2
      have htgt := HOK.out.tgt _ hidx
      have hrr : rcd (fl F i).recs (nat (pp F i j).recs k) = rec_ F i j k := rfl
      rw [hrr] at r0 r1 r2 r3 r4 r5 htgt
      have k2 : (k : Int) < ((pp F i j).recs.length : Int) := by omega
      have hix : (nat (pp F i j).recs k : Int) < ((fl F i).recs.length : Int) := by omega
      generalize nat (pp F i j).recs k = ix at *
      have hix0 : (0 : Int) ≤ (ix : Int) := by omega
      clear hrr u1
      have KA : Kept w8 (w8.alloc (.cells #[.int .i32 0, .int .u8 0, .bool false] 137)) := (Kept.refl w8).alloc _
      have z0' := KA.cell z0
      have u0' := KA.cell u0
      have y3' := KA.cell y3
      have r0' := KA.cell r0
      have r1' := KA.cell r1
      have r2' := KA.cell r2
      have HKA := Lib.hid KA
      clear KA
      have HMR := Lib.hid (mem_rec (F := F) (g := g) (f := i) (p := j) (q := k) hlt2 hlt3)
      have HKQ := Lib.hid (keepQ_succ F g i j k)
      have HOO := Lib.hid (show keeps F g (rec_ F i j k) = (decide ((rec_ F i j k).kind = 1) && (if 0 ≤ (rec_ F i j k).tgt then (fl F (rec_ F i j k).tgt.toNat).side || g else !(rec_ F i j k).ext)) from rfl)
      have HAA := Lib.hid (show adds F g (rec_ F i j k) = if keeps F g (rec_ F i j k) = true ∧ 0 ≤ (rec_ F i j k).tgt then [.inl (rec_ F i j k).tgt.toNat] else [] from rfl)
      have HNX : Hid (∀ W, Kept w8 W → (∀ v ∈ adds F g (rec_ F i j k), R4 v = true) → E1 w q1 q2 G F g (.inl s) R0 i j bf bp BX BP (.int .i64 ((k + 1 : Nat) : Int)) (.bool (b17 || keeps F g (rec_ F i j k))) (.bool c4) W) := Lib.hid (fun W kk hv => by
        refine ⟨k + 1, by omega, rfl, ?_, ⟨R4, c4, rfl, (HM5.out.weak (fun x t hd => DJ.rec hv hd)).kept2 kk, HL5.out, HB5.out.kept kk⟩, HP5.out.kept kk⟩
        rw [HKQ.out, HB17.out, Bool.or_assoc])
      have HMK : Hid (∀ W c, Kept w8 W → keeps F g (rec_ F i j k) = true → (rec_ F i j k).tgt = (c : Nat) → c < F.length → R4 (.inl c) = false → E1 w q1 q2 G F g (.inl s) R0 i j bf bp BX BP (.int .i64 ((k + 1 : Nat) : Int)) (.bool true) (.bool true) (W.setCell ⟨q1, c, none⟩ (.bool true))) := Lib.hid (fun W c kk hk hc hcl hR => by
        have hmem := HMR.out hk (by rw [hc]; omega)
        rw [hc, Int.toNat_natCast] at hmem
        have h5 := HM5.out.kept2 kk
        refine ⟨k + 1, by omega, rfl, ?_, ⟨_, true, rfl, h5.markF HFIT.out hs HQ1.out HL5.out hmem hR hcl _, upd_up HL5.out, (HB5.out.kept kk).far (p := ⟨q1, c, none⟩) ((HB5.out.kept kk).apart h5.mks.fl (by decide)) _⟩, (HP5.out.kept kk).far (p := ⟨q1, c, none⟩) ((HP5.out.kept kk).apart h5.mks.fl (by decide)) _⟩
        rw [HKQ.out, hk, Bool.or_true, Bool.or_true])
      generalize rec_ F i j k = r at *
      go_upto_region 28 with fail
      go_region
      have HK9 := Lib.hid (((Kept.refl w8).alloc (.cells #[.int .i32 r.tgt, .int .u8 (r.kind : Int), .bool r.ext] 137)).drew)
      have hbr := (Blk.new w8 137 [.int .i32 r.tgt, .int .u8 (r.kind : Int), .bool r.ext]).drew
      have HBR : Hid (Blk (w8.alloc (.cells #[.int .i32 r.tgt, .int .u8 (r.kind : Int), .bool r.ext] 137)).drew w8.heap.size 137 [.int .i32 r.tgt, .int .u8 (r.kind : Int), .bool r.ext]) := Lib.hid hbr
      clear hbr z0' u0' y3' r0' r1' r2' z0 u0 y3 r0 r1 r2 HKA
      generalize (w8.alloc (.cells #[.int .i32 r.tgt, .int .u8 (r.kind : Int), .bool r.ext] 137)).drew = w9 at *
      generalize w8.heap.size = rx at *
      as_aux_lemma =>
        have s0_ : w9.cell? ⟨rx, 0, none⟩ = some (.int .i32 r.tgt) := HBR.out.cell 0
        have s1 : w9.cell? ⟨rx, 1, none⟩ = some (.int .u8 (r.kind : Int)) := HBR.out.cell 1
        have s2 : w9.cell? ⟨rx, 2, none⟩ = some (.bool r.ext) := HBR.out.cell 2
        have HM9 := Lib.hid (HM5.out.kept2 HK9.out)
        clear HBR
        by_cases hkd : r.kind = 1
        · have hk1 : ((r.kind : Int) != 1) = false := kd1 hkd
          by_cases h0 : 0 ≤ r.tgt
          · obtain ⟨c, hcc⟩ := Int.eq_ofNat_of_zero_le h0
            have hcl : c < F.length := by omega
            obtain ⟨b_, off_, e_, _, _, _, _, _, _, v1, _⟩ := HF.out.at_ hcl
            have e1_ : b = b_ ∧ off = off_ := by simpa using e_
            obtain ⟨rfl, rfl⟩ := e1_
            have v1 := HM9.out.kept.cell v1
            obtain ⟨y1, y2⟩ := HM9.out.mks.cellF hcl
            have q0 : (0 : Int) ≤ (c : Int) := by omega
            have q1_ : (c : Int) < (F.length : Int) := by omega
            have hkk : keeps F g r = ((fl F c).side || g) := by rw [HOO.out, if_pos h0, hcc, hkd, Int.toNat_natCast]; simp
            rw [hcc] at s0_
            by_cases hsg : ((fl F c).side || g) = true
            · have hkt : keeps F g r = true := by rw [hkk]; exact hsg
              cases hRc : R4 (.inl c)
              · have HA9 := Lib.hid (HMK.out w9 c HK9.out hkt hcc hcl hRc)
                rw [hRc] at y1
                clear hkt hkk hcc h0 hkd hRc HMK HNX HAA HOO
                cases hsd : (fl F c).side
                · rw [hsd] at hsg v1
                  have hg : g = true := by simpa using hsg
                  clear hsd hsg
                  go_wp2_with fail
                  go_roundw
                  case rel => exact HA9.out
                  case measure => simp [intOf]; omega
                · rw [hsd] at v1
                  clear hsd hsg
                  go_wp2_with fail
                  go_roundw
                  case rel => exact HA9.out
                  case measure => simp [intOf]; omega
              · have hA9 := HNX.out w9 HK9.out (fun v hv => by
                  rw [HAA.out, if_pos ⟨hkt, h0⟩, hcc, Int.toNat_natCast] at hv
                  rw [List.mem_singleton.1 hv]; exact hRc)
                rw [hkt, Bool.or_true] at hA9
                have HA9 := Lib.hid hA9
                rw [hRc] at y1
                clear hA9 hkt hkk hcc h0 hkd hRc HMK HNX HAA HOO y2
                cases hsd : (fl F c).side
                · rw [hsd] at hsg v1
                  have hg : g = true := by simpa using hsg
                  clear hsd hsg
                  go_wp2_with fail
                  go_roundw
                  case rel => exact HA9.out
                  case measure => simp [intOf]; omega
                · rw [hsd] at v1
                  clear hsd hsg
                  go_wp2_with fail
                  go_roundw
                  case rel => exact HA9.out
                  case measure => simp [intOf]; omega
            · have hkt : keeps F g r = false := by rw [hkk]; simpa using hsg
              have hA9 := HNX.out w9 HK9.out (fun v hv => by
                rw [HAA.out, if_neg (by rw [hkt]; simp)] at hv; cases hv)
              rw [hkt, Bool.or_false] at hA9
              have HA9 := Lib.hid hA9
              have hs1 : (fl F c).side = false := by cases h : (fl F c).side <;> simp_all
              have hg : g = false := by cases h : g <;> simp_all
              rw [hs1] at v1
              clear hA9 hkt hkk hcc h0 hkd HMK HNX HAA HOO y1 y2 hs1 hsg
              go_wp2_with fail
              go_roundw
              case rel => exact HA9.out
              case measure => simp [intOf]; omega
          · have hkk : keeps F g r = !r.ext := by rw [HOO.out, if_neg h0, hkd]; simp
            have hA9 := HNX.out w9 HK9.out (fun v hv => by
              rw [HAA.out, if_neg (fun hh => h0 hh.2)] at hv; cases hv)
            rw [hkk] at hA9
            cases hex : r.ext
            · rw [hex, Bool.not_false, Bool.or_true] at hA9
              rw [hex] at s2
              have HA9 := Lib.hid hA9
              clear hA9 hkk hkd HMK HNX HAA HOO hex
              go_wp2_with fail
              go_roundw
              case rel => exact HA9.out
              case measure => simp [intOf]; omega
            · rw [hex, Bool.not_true, Bool.or_false] at hA9
              rw [hex] at s2
              have HA9 := Lib.hid hA9
              clear hA9 hkk hkd HMK HNX HAA HOO hex
              go_wp2_with fail
              go_roundw
              case rel => exact HA9.out
              case measure => simp [intOf]; omega
        · have hk1 : ((r.kind : Int) != 1) = true := kd0 hkd
          have hkk : keeps F g r = false := by rw [HOO.out]; simp [hkd]
          have hA9 := HNX.out w9 HK9.out (fun v hv => by
            rw [HAA.out, if_neg (by rw [hkk]; simp)] at hv; cases hv)
          rw [hkk, Bool.or_false] at hA9
          have HA9 := Lib.hid hA9
          clear hA9 hkk hkd HMK HNX HAA HOO
          go_wp2_with fail
          go_roundw
          case rel => exact HA9.out
          case measure => simp [intOf]; omega
    · obtain rfl : k = (pp F i j).recs.length := by omega
      have HR : Hid (EEnd w q1 q2 G F g (.inl s) R0 i j bf BX (.bool b17) (.bool c4) w8) := Lib.hid ⟨by rw [HB17.out]; rfl, R4, c4, rfl, HM5.out, HL5.out, HB5.out⟩
      clear HM5 HL5 HB5 HP5 HB17
      go_wp2_with fail
      refine HEND.out _ _ _ _ _ _ _ _ _ _ _ _ _ _ _ _ _ _ _ _ _ _ _ _ _ _ _ _ _ _ _ _ _ _ _ _ _ _ _ _ _ _ _ _ _ _ _ _ _ HR.out
end Go.Proofs.Ytgnccfofhcbjjaa.lk
