/-
  Two more loops of lkB1ModelLive over this seat's program: over a live file's parts, over a file's marked parts.
  Conditions: the files are readable, fit and are well formed.
-/
import Derived.Test.YtgnccfofhcbjjaaLw
import Derived.Deep.CutBlock
import Derived.Deep.CutRange
namespace Go.Proofs.Ytgnccfofhcbjjaa.lk
open Go.ChangeShapes Go.WideShapes Go.ChangeAt Go.RowKit
open kit dfs dst

set_option maxRecDepth 1000000 in
set_option maxHeartbeats 32000000 in
theorem loopC (w wb0 : World) (q1 q2 : Nat) (G : Nat → Nat) (F : Ct) (g : Bool) (s : Nat) (R0 : Nd → Bool) (b off cc i bf : Nat) (BX : List Value) (c0 : Bool) (Q0 : Exit → Act → World → Prop) {a1 a3 a4 a5 a6 a7 a11 a16 a17 a18 a19 a20 a21 a22 a23 a24 a25 a26 a27 a28 a29 a30 a31 a32 a33 a34 a35 a36 a37 a38 a39 a40 a41 a42 a43 a44 a45 a46 a47 a48 a49 a50 a51 a52 a53 a54 a55 a56 a57 a58 a59 a60 a61 a62 a63 a64 a65 a66 a67 a68 a69 a70 a71 a72 a73 a74 a75 a76 a77 a78 a79 a80 a81 a82 a83 a84 a85 a86 a87 a88 a89 a90 a91 a92 a93 a94 a95 a96 a97 a98 a99 a100 a101 a102 a103 a104 a105 a106 a107 a108 a109 a110 a111 a112 a113 a114 a115 a116 a117 a118 a119 a120 a121 a122 a123 a124 a125 a126 a127 a128 a129 a130 a131 a132 a133 a134 a135 a136 a137 a138 a139 a140 a141 a142 a143 a144 a145 a146 a147 a148 a149 a150 a151 a152 a153 a154 a155 a156 a157 a158 a159 a160 a161 a162 a163 a164 a165 a166 a167 a168 a169 a170 a171 a172 a173 a174 a175 a176 a177 a178 a179 a180 a181 a182 a183 a184 a185 a186 a187 a188 a189 a190 a191 a192 a193 a194 a195 a196 a197 a198 a199 a200 a201 a202 a203 a204 a205 a206 a207 a208 a209 a210 a211 a212 : Value}
    (hf : FilesC w (.slice (some ⟨b, off, none⟩) F.length cc) F) (hfit : Fits F) (hs : s < F.length) (hq1 : w.heap.size ≤ q1) (hlo : ∀ x, x < F.length → w.heap.size ≤ G x) (hlt : i < F.length)
    (ra pa : Option Addr) (rc pc : Nat) (hbx : BX = [.int .i32 (fl F i).css, .bool (fl F i).side, .bool (fl F i).live, .slice ra (fl F i).recs.length rc, .slice pa (np F i) pc]) (hrc : RecsC w (.slice ra (fl F i).recs.length rc) (fl F i).recs) (hr1 : (fl F i).recs.length ≤ rc) (hr2 : rc ≤ 9223372036854775807) (hr3 : ra = none → (fl F i).recs.length = 0) (hpc : PartsC w (.slice pa (np F i) pc) (fl F i).parts) (hp1 : np F i ≤ pc) (hp2 : pc ≤ 9223372036854775807) (hp3 : pa = none → np F i = 0)
    (hst : C1 w q1 q2 G F g (.inl s) R0 i bf BX (.int .i64 0) (.bool c0) wb0)
    (hend : ∀ (z15 z16 z17 z18 z19 z77 z78 z79 z80 z81 z82 z83 z84 z85 z86 z87 z88 z89 z90 z91 z92 z93 z94 z95 z96 z97 z98 z99 z100 z101 z102 z103 z104 z105 z106 z107 z108 z109 z110 z111 z112 z113 z114 z115 z116 z117 z118 z119 z120 z121 z122 z123 z124 z125 z126 z127 z128 z129 z130 z131 z132 z133 z134 z135 z136 z137 z138 z139 z140 z141 z142 z143 z144 z145 z146 z147 z148 z149 z150 z151 z152 t12 : Value) (W : World), PX w q1 q2 G F g (.inl s) R0 bf BX (DP F g i 0) t12 W → Q0 Exit.normal ⟨#[.slice (some ⟨b, off, none⟩) F.length cc, a1, .bool g, a3, a4, a5, a6, a7, .int .i64 (F.length : Int), .slice (some ⟨q1, 0, none⟩) F.length F.length, .slice (some ⟨q2, 0, none⟩) F.length F.length, a11, t12, .int .i64 (i : Int), .pointer (some ⟨bf, 0, none⟩), z15, z16, z17, z18, z19, a20, a21, a22, a23, a24, a25, a26, a27, a28, a29, a30, a31, a32, a33, a34, a35, a36, a37, a38, a39, a40, a41, a42, a43, a44, a45, a46, a47, a48, a49, a50, a51, a52, a53, a54, a55, a56, a57, a58, a59, a60, a61, a62, a63, a64, a65, a66, a67, a68, a69, a70, a71, a72, a73, a74, a75, a76, z77, z78, z79, z80, z81, z82, z83, z84, z85, z86, z87, z88, z89, z90, z91, z92, z93, z94, z95, z96, z97, z98, z99, z100, z101, z102, z103, z104, z105, z106, z107, z108, z109, z110, z111, z112, z113, z114, z115, z116, z117, z118, z119, z120, z121, z122, z123, z124, z125, z126, z127, z128, z129, z130, z131, z132, z133, z134, z135, z136, z137, z138, z139, z140, z141, z142, z143, z144, z145, z146, z147, z148, z149, z150, z151, z152, a153, a154, a155, a156, a157, a158, a159, a160, a161, a162, a163, a164, a165, a166, a167, a168, a169, a170, a171, a172, a173, a174, a175, a176, a177, a178, a179, a180, a181, a182, a183, a184, a185, a186, a187, a188, a189, a190, a191, a192, a193, a194, a195, a196, a197, a198, a199, a200, a201, a202, a203, a204, a205, a206, a207, a208, a209, a210, a211, a212], []⟩ W) :
    Code.wp Try.prog pieceC Q0 ⟨#[.slice (some ⟨b, off, none⟩) F.length cc, a1, .bool g, a3, a4, a5, a6, a7, .int .i64 (F.length : Int), .slice (some ⟨q1, 0, none⟩) F.length F.length, .slice (some ⟨q2, 0, none⟩) F.length F.length, a11, .bool c0, .int .i64 (i : Int), .pointer (some ⟨bf, 0, none⟩), .int .i64 0, a16, a17, a18, a19, a20, a21, a22, a23, a24, a25, a26, a27, a28, a29, a30, a31, a32, a33, a34, a35, a36, a37, a38, a39, a40, a41, a42, a43, a44, a45, a46, a47, a48, a49, a50, a51, a52, a53, a54, a55, a56, a57, a58, a59, a60, a61, a62, a63, a64, a65, a66, a67, a68, a69, a70, a71, a72, a73, a74, a75, a76, a77, a78, a79, a80, a81, a82, a83, a84, a85, a86, a87, a88, a89, a90, a91, a92, a93, a94, a95, a96, a97, a98, a99, a100, a101, a102, a103, a104, a105, a106, a107, a108, a109, a110, a111, a112, a113, a114, a115, a116, a117, a118, a119, a120, a121, a122, a123, a124, a125, a126, a127, a128, a129, a130, a131, a132, a133, a134, a135, a136, a137, a138, a139, a140, a141, a142, a143, a144, a145, a146, a147, a148, a149, a150, a151, a152, a153, a154, a155, a156, a157, a158, a159, a160, a161, a162, a163, a164, a165, a166, a167, a168, a169, a170, a171, a172, a173, a174, a175, a176, a177, a178, a179, a180, a181, a182, a183, a184, a185, a186, a187, a188, a189, a190, a191, a192, a193, a194, a195, a196, a197, a198, a199, a200, a201, a202, a203, a204, a205, a206, a207, a208, a209, a210, a211, a212], []⟩ wb0 := by
  have HEND := Lib.hid hend
  have HST := Lib.hid hst
  have HF := Lib.hid hf
  have HFIT := Lib.hid hfit
  have HLENS := Lib.hid hfit.lens
  have htop := hfit.top
  have HQ1 := Lib.hid hq1
  have HLO := Lib.hid hlo
  have HBXE := Lib.hid hbx
  have HOK := Lib.hid (hfit.ok i hlt)
  have hnp : np F i ≤ 262144 := (hfit.lens i hlt).2.1
  have hnr : (fl F i).recs.length ≤ 262144 := (hfit.lens i hlt).1
  have i0 : (i : Int) < (F.length : Int) := by omega
  have HRC := Lib.hid hrc
  have HPC := Lib.hid hpc
  clear hend hst hf hfit hq1 hlo hbx hrc hpc
  conv => arg 2; whnf
  go_wp2_with fail
  go_loopw [15, 12] (fun t15 t12 W => C1 w q1 q2 G F g (.inl s) R0 i bf BX t15 t12 W) (fun t15 _ _ => np F i - (intOf t15).toNat)
  case atStart => exact HST.out
  case round =>
    obtain ⟨j, hj, rfl, R3, c3, rfl, hM3, hl3, hb3⟩ := hrel
    have HM3 := Lib.hid hM3
    have HL3 := Lib.hid hl3
    have HB3 := Lib.hid hb3
    obtain ⟨w6, rfl⟩ : ∃ w6 : World, w6 = wr := ⟨_, rfl⟩
    have y4 : w6.cell? ⟨bf, 4, none⟩ = some (.slice pa (np F i) pc) := by rw [HB3.out.cell, HBXE.out]; rfl
    clear hM3 hl3 hb3
    by_cases hlt2 : j < np F i
    · obtain ⟨bp0, offp, ep, _, ra2, rc2, da, dc, p0, p1, p2, p3, ⟨hu1, hu2, hu3⟩, ⟨hd1, hd2, hd3⟩, hU, hD⟩ := HPC.out.at_ hlt2
      subst ep
      have k1 : (j : Int) < (np F i : Int) := by omega
      have d0 : w6.cell? ⟨bp0, offp + j * 4, none⟩ = some (.slice ra2 (pp F i j).recs.length rc2) := HM3.out.kept.cell p0
      have d1 : w6.cell? ⟨bp0, offp + j * 4 + 1, none⟩ = some (.slice da (pp F i j).deps.length dc) := HM3.out.kept.cell p1
      have d2 : w6.cell? ⟨bp0, offp + j * 4 + 2, none⟩ = some (.bool (pp F i j).rem) := HM3.out.kept.cell p2
      have d3 : w6.cell? ⟨bp0, offp + j * 4 + 3, none⟩ = some (.bool (pp F i j).force) := HM3.out.kept.cell p3
      have HU : Hid (U32sC w (.slice ra2 (pp F i j).recs.length rc2) (pp F i j).recs) := Lib.hid hU
      have hu1 : (pp F i j).recs.length ≤ rc2 := hu1
      have hu3 : ra2 = none → (pp F i j).recs.length = 0 := hu3
      have hnu : (pp F i j).recs.length ≤ 262144 := ((HLENS.out i hlt).2.2 j hlt2).1
      clear p0 p1 p2 p3 hD hd1 hd3
      go_upto_region 24 with fail
      have HKB := Lib.hid ((Kept.refl w6).alloc (.cells #[.slice ra2 (pp F i j).recs.length rc2, .slice da (pp F i j).deps.length dc, .bool (pp F i j).rem, .bool (pp F i j).force] 135))
      obtain ⟨BP, hBP⟩ : ∃ BP : List Value, BP = [.slice ra2 (pp F i j).recs.length rc2, .slice da (pp F i j).deps.length dc, .bool (pp F i j).rem, .bool (pp F i j).force] := ⟨_, rfl⟩
      have HBP : Hid (Blk (w6.alloc (.cells #[.slice ra2 (pp F i j).recs.length rc2, .slice da (pp F i j).deps.length dc, .bool (pp F i j).rem, .bool (pp F i j).force] 135)) w6.heap.size 135 BP) := Lib.hid (by rw [hBP]; exact Blk.new w6 135 _)
      have HBPE := Lib.hid hBP
      clear d0 d1 d2 d3 y4 hBP
      generalize w6.alloc (.cells #[.slice ra2 (pp F i j).recs.length rc2, .slice da (pp F i j).deps.length dc, .bool (pp F i j).rem, .bool (pp F i j).force] 135) = w7 at *
      generalize w6.heap.size = bp at *
      have z2 : w7.cell? ⟨bp, 2, none⟩ = some (.bool (pp F i j).rem) := by rw [HBP.out.cell, HBPE.out]; rfl
      have HE0 : Hid (E1 w q1 q2 G F g (.inl s) R0 i j bf bp BX BP (.int .i64 0) (.bool (!(pp F i j).rem)) (.bool c3) w7) := Lib.hid ⟨0, Nat.zero_le _, rfl, by rw [show keepQ F g i j 0 = false from rfl, Bool.or_false], ⟨R3, c3, rfl, HM3.out.kept2 HKB.out, HL3.out, HB3.out.kept HKB.out⟩, HBP.out⟩
      clear HM3 HL3 HB3 HKB HBP
      go_upto_block 8 with fail
      clear z2
      refine loopE w w7 q1 q2 G F g s R0 b off cc i bf BX c3 j bp BP _ HF.out HFIT.out hs HQ1.out HLO.out hlt ra (some ⟨bp0, offp, none⟩) rc pc HBXE.out HRC.out hr1 hr2 hr3 hlt2 ra2 da rc2 dc HBPE.out HU.out hu1 hu2 hu3 HE0.out ?_
      clear HE0
      intro z18 z19 z92 z93 z94 z95 z96 z97 z98 z99 z100 z101 z102 z103 z104 z105 z106 z107 z108 z109 z110 z111 z112 z113 z114 z115 z116 z117 z118 z119 z120 z121 z122 z123 z124 z125 z126 z127 z128 z129 z130 z131 z132 z133 z134 z135 t12 t17 W hR
      obtain ⟨rfl, R4, c4, rfl, hM4, hl4, hb4⟩ := hR
      have HM5 := Lib.hid hM4
      have HL5 := Lib.hid hl4
      have HB5 := Lib.hid hb4
      obtain ⟨w8, rfl⟩ : ∃ w8 : World, w8 = W := ⟨_, rfl⟩
      obtain ⟨b17, hkp⟩ : ∃ b17, b17 = keepP F g i j := ⟨_, rfl⟩
      rw [← hkp]
      clear hM4 hl4 hb4
      have x0 := HM5.out.mks.row hlt
      obtain ⟨x1, x2⟩ := HM5.out.mks.cellP hlt hlt2
      have k3 : (j : Int) < (np F i : Int) := by omega
      have HC6 : Hid ((keepP F g i j = true → R4 (.inr (i, j)) = true) → C1 w q1 q2 G F g (.inl s) R0 i bf BX (.int .i64 ((j + 1 : Nat) : Int)) (.bool c4) w8) := Lib.hid (fun hh => ⟨j + 1, by omega, rfl, R4, c4, rfl, HM5.out.weak (fun x t hd => DJ.part rfl hh hd), HL5.out, HB5.out⟩)
      cases b17
      · have HA9 := Lib.hid (HC6.out (fun h => by rw [← hkp] at h; cases h))
        clear hkp HC6
        go_wp2_with fail
        go_roundw
        case rel => exact HA9.out
        case measure => simp [intOf]; omega
      · cases hRp : R4 (.inr (i, j))
        · have hmem := mem_keep (F := F) (g := g) (f := i) (p := j) hlt2 hkp.symm
          have HA9 : Hid (C1 w q1 q2 G F g (.inl s) R0 i bf BX (.int .i64 ((j + 1 : Nat) : Int)) (.bool true) (w8.setCell ⟨G i, j, none⟩ (.bool true))) := Lib.hid ⟨j + 1, by omega, rfl, _, true, rfl, HM5.out.markP HFIT.out hs (HLO.out i hlt) HL5.out hmem hRp hlt hlt2 _, upd_up HL5.out, HB5.out.far (p := ⟨G i, j, none⟩) (HB5.out.apart (HM5.out.mks.pl i hlt) (by decide)) _⟩
          rw [hRp] at x1
          clear hmem hRp hkp HC6
          go_wp2_with fail
          go_roundw
          case rel => exact HA9.out
          case measure => simp [intOf]; omega
        · have HA9 := Lib.hid (HC6.out (fun _ => hRp))
          rw [hRp] at x1
          clear hRp hkp HC6
          go_wp2_with fail
          go_roundw
          case rel => exact HA9.out
          case measure => simp [intOf]; omega
    · obtain rfl : j = np F i := by omega
      have HR : Hid (PX w q1 q2 G F g (.inl s) R0 bf BX (DP F g i 0) (.bool c3) w6) := Lib.hid ⟨R3, c3, rfl, HM3.out.weak (fun x t hd => DP.start hd), HB3.out⟩
      clear HM3 HL3 HB3
      go_wp2_with fail
      refine HEND.out _ _ _ _ _ _ _ _ _ _ _ _ _ _ _ _ _ _ _ _ _ _ _ _ _ _ _ _ _ _ _ _ _ _ _ _ _ _ _ _ _ _ _ _ _ _ _ _ _ _ _ _ _ _ _ _ _ _ _ _ _ _ _ _ _ _ _ _ _ _ _ _ _ _ _ _ _ _ _ _ _ _ _ HR.out
end Go.Proofs.Ytgnccfofhcbjjaa.lk
