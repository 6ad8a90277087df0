/-
  A loop of lkB1ModelLive over this seat's program: over a file's marked parts.
  Conditions: the files are readable, fit and are well formed.
-/
import Derived.Test.YtgnccfofhcbjjaaLw2
import Derived.Deep.CutBlock
import Derived.Deep.CutRange
namespace Go.Proofs.Ytgnccfofhcbjjaa.lk
open Go.ChangeShapes Go.WideShapes Go.ChangeAt Go.RowKit
open kit dfs dst

set_option maxRecDepth 1000000 in
set_option maxHeartbeats 32000000 in
theorem loopP (w wb0 : World) (q1 q2 : Nat) (G : Nat → Nat) (F : Ct) (g : Bool) (s : Nat) (R0 : Nd → Bool) (b off cc i bf : Nat) (BX : List Value) (c0 : Bool) (Q0 : Exit → Act → World → Prop) {a1 a3 a4 a5 a6 a7 a11 a15 a16 a17 a18 a19 a21 a22 a23 a24 a25 a26 a27 a28 a29 a30 a31 a32 a33 a34 a35 a36 a37 a38 a39 a40 a41 a42 a43 a44 a45 a46 a47 a48 a49 a50 a51 a52 a53 a54 a55 a56 a57 a58 a59 a60 a61 a62 a63 a64 a65 a66 a67 a68 a69 a70 a71 a72 a73 a74 a75 a76 a77 a78 a79 a80 a81 a82 a83 a84 a85 a86 a87 a88 a89 a90 a91 a92 a93 a94 a95 a96 a97 a98 a99 a100 a101 a102 a103 a104 a105 a106 a107 a108 a109 a110 a111 a112 a113 a114 a115 a116 a117 a118 a119 a120 a121 a122 a123 a124 a125 a126 a127 a128 a129 a130 a131 a132 a133 a134 a135 a136 a137 a138 a139 a140 a141 a142 a143 a144 a145 a146 a147 a148 a149 a150 a151 a152 a153 a154 a155 a156 a157 a158 a159 a160 a161 a162 a163 a164 a165 a166 a167 a168 a169 a170 a171 a172 a173 a174 a175 a176 a177 a178 a179 a180 a181 a182 a183 a184 a185 a186 a187 a188 a189 a190 a191 a192 a193 a194 a195 a196 a197 a198 a199 a200 a201 a202 a203 a204 a205 a206 a207 a208 a209 a210 a211 a212 : Value}
    (hf : FilesC w (.slice (some ⟨b, off, none⟩) F.length cc) F) (hfit : Fits F) (hs : s < F.length) (hq1 : w.heap.size ≤ q1) (hlo : ∀ x, x < F.length → w.heap.size ≤ G x) (hlt : i < F.length)
    (ra pa : Option Addr) (rc pc : Nat) (hbx : BX = [.int .i32 (fl F i).css, .bool (fl F i).side, .bool (fl F i).live, .slice ra (fl F i).recs.length rc, .slice pa (np F i) pc]) (hpc : PartsC w (.slice pa (np F i) pc) (fl F i).parts) (hp1 : np F i ≤ pc) (hp2 : pc ≤ 9223372036854775807) (hp3 : pa = none → np F i = 0)
    (hst : P1 w q1 q2 G F g (.inl s) R0 i bf BX (.int .i64 0) (.bool c0) wb0)
    (hend : ∀ (z20 z21 z22 z23 z153 z154 z155 z156 z157 z158 z159 z160 z161 z162 z163 z164 z165 z166 z167 z168 z169 z170 z171 z172 z173 z174 z175 z176 z177 z178 z179 z180 z181 z182 z183 z184 z185 z186 z187 z188 z189 z190 z191 z192 z193 z194 z195 z196 z197 z198 z199 z200 z201 z202 z203 z204 z205 z206 z207 z208 z209 z210 t12 : Value) (W : World), B1 w q1 q2 G F g (.inl s) R0 (.int .i64 ((i + 1 : Nat) : Int)) t12 W → Q0 Exit.normal ⟨#[.slice (some ⟨b, off, none⟩) F.length cc, a1, .bool g, a3, a4, a5, a6, a7, .int .i64 (F.length : Int), .slice (some ⟨q1, 0, none⟩) F.length F.length, .slice (some ⟨q2, 0, none⟩) F.length F.length, a11, t12, .int .i64 (i : Int), .pointer (some ⟨bf, 0, none⟩), a15, a16, a17, a18, a19, z20, z21, z22, z23, a24, a25, a26, a27, a28, a29, a30, a31, a32, a33, a34, a35, a36, a37, a38, a39, a40, a41, a42, a43, a44, a45, a46, a47, a48, a49, a50, a51, a52, a53, a54, a55, a56, a57, a58, a59, a60, a61, a62, a63, a64, a65, a66, a67, a68, a69, a70, a71, a72, a73, a74, a75, a76, a77, a78, a79, a80, a81, a82, a83, a84, a85, a86, a87, a88, a89, a90, a91, a92, a93, a94, a95, a96, a97, a98, a99, a100, a101, a102, a103, a104, a105, a106, a107, a108, a109, a110, a111, a112, a113, a114, a115, a116, a117, a118, a119, a120, a121, a122, a123, a124, a125, a126, a127, a128, a129, a130, a131, a132, a133, a134, a135, a136, a137, a138, a139, a140, a141, a142, a143, a144, a145, a146, a147, a148, a149, a150, a151, a152, z153, z154, z155, z156, z157, z158, z159, z160, z161, z162, z163, z164, z165, z166, z167, z168, z169, z170, z171, z172, z173, z174, z175, z176, z177, z178, z179, z180, z181, z182, z183, z184, z185, z186, z187, z188, z189, z190, z191, z192, z193, z194, z195, z196, z197, z198, z199, z200, z201, z202, z203, z204, z205, z206, z207, z208, z209, z210, a211, a212], []⟩ W) :
    Code.wp Try.prog pieceP Q0 ⟨#[.slice (some ⟨b, off, none⟩) F.length cc, a1, .bool g, a3, a4, a5, a6, a7, .int .i64 (F.length : Int), .slice (some ⟨q1, 0, none⟩) F.length F.length, .slice (some ⟨q2, 0, none⟩) F.length F.length, a11, .bool c0, .int .i64 (i : Int), .pointer (some ⟨bf, 0, none⟩), a15, a16, a17, a18, a19, .int .i64 0, a21, a22, a23, a24, a25, a26, a27, a28, a29, a30, a31, a32, a33, a34, a35, a36, a37, a38, a39, a40, a41, a42, a43, a44, a45, a46, a47, a48, a49, a50, a51, a52, a53, a54, a55, a56, a57, a58, a59, a60, a61, a62, a63, a64, a65, a66, a67, a68, a69, a70, a71, a72, a73, a74, a75, a76, a77, a78, a79, a80, a81, a82, a83, a84, a85, a86, a87, a88, a89, a90, a91, a92, a93, a94, a95, a96, a97, a98, a99, a100, a101, a102, a103, a104, a105, a106, a107, a108, a109, a110, a111, a112, a113, a114, a115, a116, a117, a118, a119, a120, a121, a122, a123, a124, a125, a126, a127, a128, a129, a130, a131, a132, a133, a134, a135, a136, a137, a138, a139, a140, a141, a142, a143, a144, a145, a146, a147, a148, a149, a150, a151, a152, a153, a154, a155, a156, a157, a158, a159, a160, a161, a162, a163, a164, a165, a166, a167, a168, a169, a170, a171, a172, a173, a174, a175, a176, a177, a178, a179, a180, a181, a182, a183, a184, a185, a186, a187, a188, a189, a190, a191, a192, a193, a194, a195, a196, a197, a198, a199, a200, a201, a202, a203, a204, a205, a206, a207, a208, a209, a210, a211, a212], []⟩ wb0 := by
  have HEND := Lib.hid hend
  have HST := Lib.hid hst
  have HF := Lib.hid hf
  have HFIT := Lib.hid hfit
  have HLENS := Lib.hid hfit.lens
  have htop := hfit.top
  have HQ1 := Lib.hid hq1
  have HLO := Lib.hid hlo
  have HBXE := Lib.hid hbx
  have HOK := Lib.hid (hfit.ok i hlt)
  have hnp : np F i ≤ 262144 := (hfit.lens i hlt).2.1
  have hnr : (fl F i).recs.length ≤ 262144 := (hfit.lens i hlt).1
  have i0 : (i : Int) < (F.length : Int) := by omega
  have HPC := Lib.hid hpc
  clear hend hst hf hfit hq1 hlo hbx hpc
  conv => arg 2; whnf
  go_wp2_with fail
  go_loopw [20, 12] (fun t20 t12 W => P1 w q1 q2 G F g (.inl s) R0 i bf BX t20 t12 W) (fun t20 _ _ => np F i - (intOf t20).toNat)
  case atStart => exact HST.out
  case round =>
    obtain ⟨j, hj, rfl, R3, c3, rfl, hM3, hb3⟩ := hrel
    have HM3 := Lib.hid hM3
    have HB3 := Lib.hid hb3
    obtain ⟨w6, rfl⟩ : ∃ w6 : World, w6 = wr := ⟨_, rfl⟩
    have x0 := hM3.mks.row hlt
    clear hM3 hb3
    by_cases hlt2 : j < np F i
    · have k1 : (j : Int) < (np F i : Int) := by omega
      obtain ⟨x1, _⟩ := HM3.out.mks.cellP hlt hlt2
      obtain ⟨rp, hrp⟩ : ∃ rp, rp = R3 (.inr (i, j)) := ⟨_, rfl⟩
      rw [← hrp] at x1
      cases rp
      · have HR : Hid (P1 w q1 q2 G F g (.inl s) R0 i bf BX (.int .i64 ((j + 1 : Nat) : Int)) (.bool c3) w6) := Lib.hid ⟨j + 1, by omega, rfl, R3, c3, rfl, HM3.out.weak (fun x t hd => DP.off hrp.symm hd), HB3.out⟩
        clear hrp
        go_wp2_with fail
        go_roundw
        case rel => exact HR.out
        case measure => simp [intOf]; omega
      · have HRP := Lib.hid hrp.symm
        clear hrp
        obtain ⟨y1, y2⟩ := HM3.out.mks.cellF hlt
        obtain ⟨rl2, hrl2⟩ : ∃ rl2, rl2 = R3 (.inl i) := ⟨_, rfl⟩
        rw [← hrl2] at y1
        have HRL2 := Lib.hid hrl2.symm
        clear hrl2
        go_upto_if 173 with (fail)
        go_cut [12] from 153 to 210 (fun t12 W => Hid (QX w q1 q2 G F g (.inl s) R0 i j bf BX (DQ F g i j 0) t12 W))
        case first =>
          cases rl2
          · have HR : Hid (QX w q1 q2 G F g (.inl s) R0 i j bf BX (DQ F g i j 0) (.bool true) (w6.setCell ⟨q1, i, none⟩ (.bool true))) := Lib.hid ⟨_, true, rfl, HM3.out.markF HFIT.out hs HQ1.out HRP.out (List.mem_cons_self ..) HRL2.out hlt _, upd_up HRP.out, HB3.out.far (p := ⟨q1, i, none⟩) (HB3.out.apart HM3.out.mks.fl (by decide)) _⟩
            clear HRP HRL2 x0 x1
            go_wp2_with fail
            go_meet
            exact HR
          · have HR : Hid (QX w q1 q2 G F g (.inl s) R0 i j bf BX (DQ F g i j 0) (.bool c3) w6) := Lib.hid ⟨R3, c3, rfl, HM3.out.weak (fun x t hd => DQ.start HRL2.out hd), HRP.out, HB3.out⟩
            clear HRP HRL2 x0 x1 y2
            go_wp2_with fail
            go_meet
            exact HR
        case rest =>
          clear x0 x1 y1 y2 HRP HRL2 HM3 HB3
          obtain ⟨R4, c4, rfl, hM4, hp4, hb4⟩ := hcut.out
          obtain ⟨w7, rfl⟩ : ∃ w7 : World, w7 = wc := ⟨_, rfl⟩
          have HQ0 : Hid (Q1 w q1 q2 G F g (.inl s) R0 i j bf BX (.int .i64 0) (.bool c4) w7) := Lib.hid ⟨0, Nat.zero_le _, rfl, R4, c4, rfl, hM4, hp4, hb4⟩
          have y4 : w7.cell? ⟨bf, 4, none⟩ = some (.slice pa (np F i) pc) := by rw [hb4.cell, HBXE.out]; rfl
          obtain ⟨bp0, offp, ep, _, ra2, rc2, da, dc, _, p1, _, _, _, ⟨hd1, hd2, hd3⟩, _, hD⟩ := HPC.out.at_ hlt2
          subst ep
          have d1 : w7.cell? ⟨bp0, offp + j * 4 + 1, none⟩ = some (.slice da (pp F i j).deps.length dc) := hM4.kept.cell p1
          have HD : Hid (DepsC w (.slice da (pp F i j).deps.length dc) (pp F i j).deps) := Lib.hid hD
          have hd1 : (pp F i j).deps.length ≤ dc := hd1
          have hd3 : da = none → (pp F i j).deps.length = 0 := hd3
          have hnd : (pp F i j).deps.length ≤ 262144 := ((HLENS.out i hlt).2.2 j hlt2).2
          have HDOK : Hid (∀ k, k < (pp F i j).deps.length → In F (.inr (lk.dep (pp F i j).deps k))) := Lib.hid (fun k hk => HOK.out.dep j hlt2 k hk)
          clear hcut hM4 hp4 hb4 p1 hD
          go_upto_block 12 with fail
          clear y4 d1
          refine loopQ w w7 q1 q2 G F g s R0 b off cc i bf BX c4 j _ HF.out HFIT.out hs HQ1.out HLO.out hlt ra (some ⟨bp0, offp, none⟩) rc pc HBXE.out hlt2 da dc HD.out hd1 hd2 hd3 HQ0.out ?_
          clear HQ0
          intro z22 z23 z183 z184 z185 z186 z187 z188 z189 z190 z191 z192 z193 z194 z195 z196 z197 z198 z199 z200 z201 z202 z203 z204 z205 z206 z207 z208 z209 z210 t12 W hR
          obtain ⟨R5, c5, rfl, hM5, hb5⟩ := hR
          have HR : Hid (P1 w q1 q2 G F g (.inl s) R0 i bf BX (.int .i64 ((j + 1 : Nat) : Int)) (.bool c5) W) := Lib.hid ⟨j + 1, by omega, rfl, R5, c5, rfl, hM5, hb5⟩
          clear hM5 hb5
          go_wp2_with fail
          go_roundw
          case rel => exact HR.out
          case measure => simp [intOf]; omega
    · obtain rfl : j = np F i := by omega
      have HR : Hid (B1 w q1 q2 G F g (.inl s) R0 (.int .i64 ((i + 1 : Nat) : Int)) (.bool c3) w6) := Lib.hid ⟨i + 1, R3, c3, by omega, rfl, rfl, HM3.out.weak (fun x t hd => DI.next hd)⟩
      clear HM3 HB3
      go_wp2_with fail
      refine HEND.out _ _ _ _ _ _ _ _ _ _ _ _ _ _ _ _ _ _ _ _ _ _ _ _ _ _ _ _ _ _ _ _ _ _ _ _ _ _ _ _ _ _ _ _ _ _ _ _ _ _ _ _ _ _ _ _ _ _ _ _ _ _ _ _ HR.out
end Go.Proofs.Ytgnccfofhcbjjaa.lk
