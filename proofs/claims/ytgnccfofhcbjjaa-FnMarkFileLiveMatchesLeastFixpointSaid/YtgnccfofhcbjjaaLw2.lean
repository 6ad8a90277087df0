/-
  A loop of lkB1ModelLive over this seat's program: over a part's dependencies.
  Conditions: the files are readable, fit and are well formed.
-/
import Derived.Test.YtgnccfofhcbjjaaLw0
namespace Go.Proofs.Ytgnccfofhcbjjaa.lk
open Go.ChangeShapes Go.WideShapes Go.ChangeAt Go.RowKit
open kit dfs dst

set_option maxRecDepth 1000000 in
set_option maxHeartbeats 32000000 in
theorem loopQ (w wb0 : World) (q1 q2 : Nat) (G : Nat → Nat) (F : Ct) (g : Bool) (s : Nat) (R0 : Nd → Bool) (b off cc i bf : Nat) (BX : List Value) (c0 : Bool) (j : Nat) (Q0 : Exit → Act → World → Prop) {a1 a3 a4 a5 a6 a7 a11 a15 a16 a17 a18 a19 a23 a24 a25 a26 a27 a28 a29 a30 a31 a32 a33 a34 a35 a36 a37 a38 a39 a40 a41 a42 a43 a44 a45 a46 a47 a48 a49 a50 a51 a52 a53 a54 a55 a56 a57 a58 a59 a60 a61 a62 a63 a64 a65 a66 a67 a68 a69 a70 a71 a72 a73 a74 a75 a76 a77 a78 a79 a80 a81 a82 a83 a84 a85 a86 a87 a88 a89 a90 a91 a92 a93 a94 a95 a96 a97 a98 a99 a100 a101 a102 a103 a104 a105 a106 a107 a108 a109 a110 a111 a112 a113 a114 a115 a116 a117 a118 a119 a120 a121 a122 a123 a124 a125 a126 a127 a128 a129 a130 a131 a132 a133 a134 a135 a136 a137 a138 a139 a140 a141 a142 a143 a144 a145 a146 a147 a148 a149 a150 a151 a152 a153 a154 a155 a156 a157 a158 a159 a160 a161 a162 a163 a164 a165 a166 a167 a168 a169 a170 a171 a172 a173 a174 a175 a176 a177 a178 a179 a180 a181 a182 a183 a184 a185 a186 a187 a188 a189 a190 a191 a192 a193 a194 a195 a196 a197 a198 a199 a200 a201 a202 a203 a204 a205 a206 a207 a208 a209 a210 a211 a212 : Value}
    (hf : FilesC w (.slice (some ⟨b, off, none⟩) F.length cc) F) (hfit : Fits F) (hs : s < F.length) (hq1 : w.heap.size ≤ q1) (hlo : ∀ x, x < F.length → w.heap.size ≤ G x) (hlt : i < F.length)
    (ra pa : Option Addr) (rc pc : Nat) (hbx : BX = [.int .i32 (fl F i).css, .bool (fl F i).side, .bool (fl F i).live, .slice ra (fl F i).recs.length rc, .slice pa (np F i) pc])
    (hlt2 : j < np F i) (da : Option Addr) (dc : Nat) (hD : DepsC w (.slice da (pp F i j).deps.length dc) (pp F i j).deps) (hd1 : (pp F i j).deps.length ≤ dc) (hd2 : dc ≤ 9223372036854775807) (hd3 : da = none → (pp F i j).deps.length = 0)
    (hst : Q1 w q1 q2 G F g (.inl s) R0 i j bf BX (.int .i64 0) (.bool c0) wb0)
    (hend : ∀ (z22 z23 z183 z184 z185 z186 z187 z188 z189 z190 z191 z192 z193 z194 z195 z196 z197 z198 z199 z200 z201 z202 z203 z204 z205 z206 z207 z208 z209 z210 t12 : Value) (W : World), PX w q1 q2 G F g (.inl s) R0 bf BX (DP F g i (j + 1)) t12 W → Q0 Exit.normal ⟨#[.slice (some ⟨b, off, none⟩) F.length cc, a1, .bool g, a3, a4, a5, a6, a7, .int .i64 (F.length : Int), .slice (some ⟨q1, 0, none⟩) F.length F.length, .slice (some ⟨q2, 0, none⟩) F.length F.length, a11, t12, .int .i64 (i : Int), .pointer (some ⟨bf, 0, none⟩), a15, a16, a17, a18, a19, .int .i64 (j : Int), .slice da (pp F i j).deps.length dc, z22, z23, a24, a25, a26, a27, a28, a29, a30, a31, a32, a33, a34, a35, a36, a37, a38, a39, a40, a41, a42, a43, a44, a45, a46, a47, a48, a49, a50, a51, a52, a53, a54, a55, a56, a57, a58, a59, a60, a61, a62, a63, a64, a65, a66, a67, a68, a69, a70, a71, a72, a73, a74, a75, a76, a77, a78, a79, a80, a81, a82, a83, a84, a85, a86, a87, a88, a89, a90, a91, a92, a93, a94, a95, a96, a97, a98, a99, a100, a101, a102, a103, a104, a105, a106, a107, a108, a109, a110, a111, a112, a113, a114, a115, a116, a117, a118, a119, a120, a121, a122, a123, a124, a125, a126, a127, a128, a129, a130, a131, a132, a133, a134, a135, a136, a137, a138, a139, a140, a141, a142, a143, a144, a145, a146, a147, a148, a149, a150, a151, a152, a153, a154, a155, a156, a157, a158, a159, a160, a161, a162, a163, a164, a165, a166, a167, a168, a169, a170, a171, a172, a173, a174, a175, a176, a177, a178, a179, a180, a181, a182, z183, z184, z185, z186, z187, z188, z189, z190, z191, z192, z193, z194, z195, z196, z197, z198, z199, z200, z201, z202, z203, z204, z205, z206, z207, z208, z209, z210, a211, a212], []⟩ W) :
    Code.wp Try.prog pieceQ Q0 ⟨#[.slice (some ⟨b, off, none⟩) F.length cc, a1, .bool g, a3, a4, a5, a6, a7, .int .i64 (F.length : Int), .slice (some ⟨q1, 0, none⟩) F.length F.length, .slice (some ⟨q2, 0, none⟩) F.length F.length, a11, .bool c0, .int .i64 (i : Int), .pointer (some ⟨bf, 0, none⟩), a15, a16, a17, a18, a19, .int .i64 (j : Int), .slice da (pp F i j).deps.length dc, .int .i64 0, a23, a24, a25, a26, a27, a28, a29, a30, a31, a32, a33, a34, a35, a36, a37, a38, a39, a40, a41, a42, a43, a44, a45, a46, a47, a48, a49, a50, a51, a52, a53, a54, a55, a56, a57, a58, a59, a60, a61, a62, a63, a64, a65, a66, a67, a68, a69, a70, a71, a72, a73, a74, a75, a76, a77, a78, a79, a80, a81, a82, a83, a84, a85, a86, a87, a88, a89, a90, a91, a92, a93, a94, a95, a96, a97, a98, a99, a100, a101, a102, a103, a104, a105, a106, a107, a108, a109, a110, a111, a112, a113, a114, a115, a116, a117, a118, a119, a120, a121, a122, a123, a124, a125, a126, a127, a128, a129, a130, a131, a132, a133, a134, a135, a136, a137, a138, a139, a140, a141, a142, a143, a144, a145, a146, a147, a148, a149, a150, a151, a152, a153, a154, a155, a156, a157, a158, a159, a160, a161, a162, a163, a164, a165, a166, a167, a168, a169, a170, a171, a172, a173, a174, a175, a176, a177, a178, a179, a180, a181, a182, a183, a184, a185, a186, a187, a188, a189, a190, a191, a192, a193, a194, a195, a196, a197, a198, a199, a200, a201, a202, a203, a204, a205, a206, a207, a208, a209, a210, a211, a212], []⟩ wb0 := by
  have HEND := Lib.hid hend
  have HST := Lib.hid hst
  have HF := Lib.hid hf
  have HFIT := Lib.hid hfit
  have HLENS := Lib.hid hfit.lens
  have htop := hfit.top
  have HQ1 := Lib.hid hq1
  have HLO := Lib.hid hlo
  have HBXE := Lib.hid hbx
  have HOK := Lib.hid (hfit.ok i hlt)
  have hnp : np F i ≤ 262144 := (hfit.lens i hlt).2.1
  have hnr : (fl F i).recs.length ≤ 262144 := (hfit.lens i hlt).1
  have i0 : (i : Int) < (F.length : Int) := by omega
  have HD := Lib.hid hD
  have hnd : (pp F i j).deps.length ≤ 262144 := ((hfit.lens i hlt).2.2 j hlt2).2
  have HDOK : Hid (∀ k, k < (pp F i j).deps.length → In F (.inr (lk.dep (pp F i j).deps k))) := Lib.hid (fun k hk => HOK.out.dep j hlt2 k hk)
  have j0 : (j : Int) < (np F i : Int) := by omega
  clear hend hst hf hfit hq1 hlo hbx hD
  conv => arg 2; whnf
  go_wp2_with fail
  go_loopw [22, 12] (fun t22 t12 W => Q1 w q1 q2 G F g (.inl s) R0 i j bf BX t22 t12 W) (fun t22 _ _ => (pp F i j).deps.length - (intOf t22).toNat)
  case atStart => exact HST.out
  case round =>
    obtain ⟨k, hk, rfl, R5, c5, rfl, hM5, hp5, hb5⟩ := hrel
    have HM5 := Lib.hid hM5
    have HP5 := Lib.hid hp5
    have HB5 := Lib.hid hb5
    obtain ⟨w8, rfl⟩ : ∃ w8 : World, w8 = wr := ⟨_, rfl⟩
    clear hM5 hp5 hb5
    by_cases hlt3 : k < (pp F i j).deps.length
    · obtain ⟨bd, offd, ed, _, e0, e1, e2, e3⟩ := Sl.at_ HD.out hlt3
      subst ed
      have e0 := HM5.out.kept.cell e0
      have e1 := HM5.out.kept.cell e1
      have k2 : (k : Int) < ((pp F i j).deps.length : Int) := by omega
      have hin := HDOK.out k hlt3
      have HMEM := Lib.hid (mem_dep (F := F) (g := g) (f := i) (p := j) hlt3)
      have HST : Hid (∀ R c W, Ms w W q1 q2 G F g (.inl s) R0 c (DQ F g i j k) R → R (.inr (lk.dep (pp F i j).deps k)) = true → Ms w W q1 q2 G F g (.inl s) R0 c (DQ F g i j (k + 1)) R) := Lib.hid (fun R c W h hR => h.weak (fun x t hd => DQ.step hlt3 hR hd))
      generalize lk.dep (pp F i j).deps k = dd at *
      obtain ⟨f2, p2⟩ := dd
      simp only at e0 e1 e2 e3
      obtain ⟨hf2, hp2⟩ := hin
      have f0 : (0 : Int) ≤ (f2 : Int) := by omega
      have f1 : (f2 : Int) < (F.length : Int) := by omega
      have f3 : (0 : Int) ≤ (p2 : Int) := by omega
      have f4 : (p2 : Int) < (np F f2 : Int) := by omega
      have HK9 := Lib.hid ((Kept.refl w8).alloc (.cells #[.int .u32 (f2 : Int), .int .u32 (p2 : Int)] 139))
      have HB9 := Lib.hid (Blk.new w8 139 [.int .u32 (f2 : Int), .int .u32 (p2 : Int)])
      have HB9 : Hid (Blk (w8.alloc (.cells #[.int .u32 (f2 : Int), .int .u32 (p2 : Int)] 139)) w8.heap.size 139 [.int .u32 (f2 : Int), .int .u32 (p2 : Int)]) := HB9
      go_upto_region 53 with fail
      generalize w8.alloc (.cells #[.int .u32 (f2 : Int), .int .u32 (p2 : Int)] 139) = w9 at *
      generalize w8.heap.size = rx at *
      as_aux_lemma =>
        have HM9 := Lib.hid (HM5.out.kept2 HK9.out)
        have s0_ : w9.cell? ⟨rx, 0, none⟩ = some (.int .u32 (f2 : Int)) := HB9.out.cell 0
        have s1 : w9.cell? ⟨rx, 1, none⟩ = some (.int .u32 (p2 : Int)) := HB9.out.cell 1
        have v0 := HM9.out.mks.row hf2
        obtain ⟨v1, v2⟩ := HM9.out.mks.cellP hf2 hp2
        obtain ⟨rd, hrd⟩ : ∃ rd, rd = R5 (.inr (f2, p2)) := ⟨_, rfl⟩
        rw [← hrd] at v1
        have HRD := Lib.hid hrd.symm
        clear hrd e0 e1
        go_quiet (fail)
        have HK10 := Lib.hid ((Kept.refl w9).drewN nq)
        generalize w9.drewN nq = w10 at *
        have HM10 := Lib.hid (HM9.out.kept2 HK10.out)
        have s0_ := HK10.out.cell s0_
        have s1 := HK10.out.cell s1
        have v0 := HM10.out.mks.row hf2
        obtain ⟨v1, v2⟩ := HM10.out.mks.cellP hf2 hp2
        rw [HRD.out] at v1
        cases rd
        · have HA9 : Hid (Q1 w q1 q2 G F g (.inl s) R0 i j bf BX (.int .i64 ((k + 1 : Nat) : Int)) (.bool true) ((w10.setCell ⟨G f2, p2, none⟩ (.bool true)).drew)) := Lib.hid ⟨k + 1, by omega, rfl, _, true, rfl, (HM10.out.markP HFIT.out hs (HLO.out f2 hf2) HP5.out HMEM.out HRD.out hf2 hp2 _).kept2 (Kept.refl _).drew, upd_up HP5.out, ((((HB5.out.kept HK9.out).kept HK10.out).far (p := ⟨G f2, p2, none⟩) (((HB5.out.kept HK9.out).kept HK10.out).apart (HM10.out.mks.pl f2 hf2) (by decide)) _)).drew⟩
          clear HMEM HST
          go_wp2_with fail
          go_region
          go_wp2_with fail
          go_roundw
          case rel => exact HA9.out
          case measure => simp [intOf]; omega
        · have HA9 : Hid (Q1 w q1 q2 G F g (.inl s) R0 i j bf BX (.int .i64 ((k + 1 : Nat) : Int)) (.bool c5) w10) := Lib.hid ⟨k + 1, by omega, rfl, R5, c5, rfl, HST.out _ _ _ HM10.out HRD.out, HP5.out, (HB5.out.kept HK9.out).kept HK10.out⟩
          clear HMEM HST
          go_wp2_with fail
          go_roundw
          case rel => exact HA9.out
          case measure => simp [intOf]; omega
    · obtain rfl : k = (pp F i j).deps.length := by omega
      have HR : Hid (PX w q1 q2 G F g (.inl s) R0 bf BX (DP F g i (j + 1)) (.bool c5) w8) := Lib.hid ⟨R5, c5, rfl, HM5.out.weak (fun x t hd => DQ.fin hd), HB5.out⟩
      clear HM5 HP5 HB5
      go_wp2_with fail
      refine HEND.out _ _ _ _ _ _ _ _ _ _ _ _ _ _ _ _ _ _ _ _ _ _ _ _ _ _ _ _ _ _ _ _ HR.out
end Go.Proofs.Ytgnccfofhcbjjaa.lk
