/-
  A piece of the first law's function over this seat's program: the ambiguous others of an entry.
  Conditions: what lies in memory behind the call.
-/
import Derived.Test.YtknmcbhcbomjmaaXp
import Derived.BigRegion
import Derived.LoopTactic
import Derived.Outline
import Derived.IntWalk
import Derived.Deep.QuietTactic
import Derived.BigQuiet
import Derived.Deep.RegionHeld3
import Derived.Deep.RegionWith
import Derived.Deep.CutBlock
import Derived.Deep.CutRange
import Derived.Deep.DeepCutAuto
import Derived.OwnWalk
import Derived.WalkMore
import Derived.Deep.LoopGhost
namespace Go.Proofs.Ytknmcbhcbomjmaa.xs
open Go.ChangeShapes Go.WideShapes Go.ChangeAt Go.RowKit
open kit
open Go.Maps (Keyed)
open Go.ChangeMaps (setBlock)

set_option maxRecDepth 1000000 in
set_option maxHeartbeats 32000000 in
theorem loopK (wb0 : World) (b off n c q1 bE t j B0 : Nat) (Vv : Value) (am : List (Nat × Nat)) (x : ByteArray) (Q0 : Exit → Act → World → Prop) {a1 a2 a3 a4 a5 a6 a7 a8 a9 a11 a12 a13 a14 a15 a16 a17 a18 a19 a20 a21 a23 a25 a27 a28 a29 a30 a31 a32 a33 a34 a35 a36 a37 a38 a39 a40 a41 a42 a43 a44 a45 a46 a47 a48 a49 a50 a51 a52 a53 a54 a55 a56 a57 a58 a59 a60 a61 a62 a63 a64 a65 a66 a67 a68 a69 a70 a71 a72 a73 a74 a75 a76 a77 a78 a79 a80 a81 a82 a83 a84 a85 a86 a87 a88 a89 a90 a91 a92 a93 a94 a95 a96 a97 a98 a99 a100 a101 a102 a103 a104 a105 a106 a107 a108 a109 a110 a111 a112 a113 a114 a115 a116 a117 a118 a119 a120 a121 a122 a123 a124 a125 a126 a127 a128 a129 a130 a131 a132 a133 a134 a135 a136 a137 a138 a139 a140 a141 a142 a143 a144 a145 a146 a147 a148 a149 a150 a151 a152 a153 a154 a155 a156 a157 a158 a159 a160 a161 a162 a163 a164 a165 a166 a167 a168 a169 a170 a171 a172 a173 a174 a175 a176 a177 a178 a179 a180 a181 a182 a183 a184 a185 a186 a187 a188 a189 a190 a191 a192 a193 a194 a195 a196 a197 a198 a199 a200 a201 a202 a203 a204 a205 a206 a207 a208 a209 a210 a211 a212 a213 a214 a215 a216 a217 a218 a219 a220 a221 a222 a223 a224 a225 a226 a227 a228 a229 a230 a231 a232 a233 a234 a235 a236 a237 a238 a239 a240 a241 a242 a243 a244 a245 a246 a247 a248 a249 a250 a251 a252 a253 a254 a255 a256 a257 a258 a259 a260 a261 a262 a263 a264 a265 a266 a267 a268 a269 a270 a271 a272 a273 a274 a275 a276 a277 a278 a279 a280 a281 a282 a283 a284 a285 a286 a287 a288 a289 a290 a291 a292 a293 a294 a295 a296 a297 a298 a299 a300 a301 a302 a303 a304 a305 a306 a307 a308 a309 a310 a311 a312 a313 a314 a315 a316 a317 a318 a319 a320 a321 a322 a323 a324 a325 a326 a327 a328 a329 a330 a331 a332 a333 a334 a335 a336 a337 : Value}
    (hE : Blk wb0 bE 48 [Vv, .int .u32 (t : Int), .int .u32 (j : Int), .int .i32 0, .int .u32 (t : Int)]) (hA : wb0.ownsRow B0 53 5 Vv am.length (ambV am)) (hlen : am.length ≤ 100000)
    (hN : ∀ k, k < am.length → (am.getD k (0, 0)).1 ≠ t ∧ ∀ W, Kept wb0 W → Calls Try.prog 10 #[.slice (some ⟨b, off, none⟩) n c, .slice (some ⟨q1, 0, none⟩) n n, .int .u32 ((am.getD k (0, 0)).1 : Int), .agg #[.int .u32 ((am.getD k (0, 0)).1 : Int), .int .u32 ((am.getD k (0, 0)).2 : Int)], .string x] W (YesKept W))
    (hend : ∀ (z4 z26 z27 z221 z222 z223 z224 z225 z226 z227 z228 z229 z230 z231 z232 z233 z234 z235 z236 z237 z238 z239 z240 z241 z242 z243 z244 z245 z246 z247 z248 z249 z250 z251 z252 z253 z254 : Value) (W : World), Kept wb0 W → Q0 Exit.normal ⟨#[.slice (some ⟨b, off, none⟩) n c, a1, a2, a3, z4, a5, a6, a7, a8, a9, .slice (some ⟨q1, 0, none⟩) n n, a11, a12, a13, a14, a15, a16, a17, a18, a19, a20, a21, .string x, a23, .pointer (some ⟨bE, 0, none⟩), a25, z26, z27, a28, a29, a30, a31, a32, a33, a34, a35, a36, a37, a38, a39, a40, a41, a42, a43, a44, a45, a46, a47, a48, a49, a50, a51, a52, a53, a54, a55, a56, a57, a58, a59, a60, a61, a62, a63, a64, a65, a66, a67, a68, a69, a70, a71, a72, a73, a74, a75, a76, a77, a78, a79, a80, a81, a82, a83, a84, a85, a86, a87, a88, a89, a90, a91, a92, a93, a94, a95, a96, a97, a98, a99, a100, a101, a102, a103, a104, a105, a106, a107, a108, a109, a110, a111, a112, a113, a114, a115, a116, a117, a118, a119, a120, a121, a122, a123, a124, a125, a126, a127, a128, a129, a130, a131, a132, a133, a134, a135, a136, a137, a138, a139, a140, a141, a142, a143, a144, a145, a146, a147, a148, a149, a150, a151, a152, a153, a154, a155, a156, a157, a158, a159, a160, a161, a162, a163, a164, a165, a166, a167, a168, a169, a170, a171, a172, a173, a174, a175, a176, a177, a178, a179, a180, a181, a182, a183, a184, a185, a186, a187, a188, a189, a190, a191, a192, a193, a194, a195, a196, a197, a198, a199, a200, a201, a202, a203, a204, a205, a206, a207, a208, a209, a210, a211, a212, a213, a214, a215, a216, a217, a218, a219, a220, z221, z222, z223, z224, z225, z226, z227, z228, z229, z230, z231, z232, z233, z234, z235, z236, z237, z238, z239, z240, z241, z242, z243, z244, z245, z246, z247, z248, z249, z250, z251, z252, z253, z254, a255, a256, a257, a258, a259, a260, a261, a262, a263, a264, a265, a266, a267, a268, a269, a270, a271, a272, a273, a274, a275, a276, a277, a278, a279, a280, a281, a282, a283, a284, a285, a286, a287, a288, a289, a290, a291, a292, a293, a294, a295, a296, a297, a298, a299, a300, a301, a302, a303, a304, a305, a306, a307, a308, a309, a310, a311, a312, a313, a314, a315, a316, a317, a318, a319, a320, a321, a322, a323, a324, a325, a326, a327, a328, a329, a330, a331, a332, a333, a334, a335, a336, a337], []⟩ W) :
    Code.wp Try.prog pieceK Q0 ⟨#[.slice (some ⟨b, off, none⟩) n c, a1, a2, a3, a4, a5, a6, a7, a8, a9, .slice (some ⟨q1, 0, none⟩) n n, a11, a12, a13, a14, a15, a16, a17, a18, a19, a20, a21, .string x, a23, .pointer (some ⟨bE, 0, none⟩), a25, .int .i64 0, a27, a28, a29, a30, a31, a32, a33, a34, a35, a36, a37, a38, a39, a40, a41, a42, a43, a44, a45, a46, a47, a48, a49, a50, a51, a52, a53, a54, a55, a56, a57, a58, a59, a60, a61, a62, a63, a64, a65, a66, a67, a68, a69, a70, a71, a72, a73, a74, a75, a76, a77, a78, a79, a80, a81, a82, a83, a84, a85, a86, a87, a88, a89, a90, a91, a92, a93, a94, a95, a96, a97, a98, a99, a100, a101, a102, a103, a104, a105, a106, a107, a108, a109, a110, a111, a112, a113, a114, a115, a116, a117, a118, a119, a120, a121, a122, a123, a124, a125, a126, a127, a128, a129, a130, a131, a132, a133, a134, a135, a136, a137, a138, a139, a140, a141, a142, a143, a144, a145, a146, a147, a148, a149, a150, a151, a152, a153, a154, a155, a156, a157, a158, a159, a160, a161, a162, a163, a164, a165, a166, a167, a168, a169, a170, a171, a172, a173, a174, a175, a176, a177, a178, a179, a180, a181, a182, a183, a184, a185, a186, a187, a188, a189, a190, a191, a192, a193, a194, a195, a196, a197, a198, a199, a200, a201, a202, a203, a204, a205, a206, a207, a208, a209, a210, a211, a212, a213, a214, a215, a216, a217, a218, a219, a220, a221, a222, a223, a224, a225, a226, a227, a228, a229, a230, a231, a232, a233, a234, a235, a236, a237, a238, a239, a240, a241, a242, a243, a244, a245, a246, a247, a248, a249, a250, a251, a252, a253, a254, a255, a256, a257, a258, a259, a260, a261, a262, a263, a264, a265, a266, a267, a268, a269, a270, a271, a272, a273, a274, a275, a276, a277, a278, a279, a280, a281, a282, a283, a284, a285, a286, a287, a288, a289, a290, a291, a292, a293, a294, a295, a296, a297, a298, a299, a300, a301, a302, a303, a304, a305, a306, a307, a308, a309, a310, a311, a312, a313, a314, a315, a316, a317, a318, a319, a320, a321, a322, a323, a324, a325, a326, a327, a328, a329, a330, a331, a332, a333, a334, a335, a336, a337], []⟩ wb0 := by
  have HEND := Lib.hid hend
  have HE := Lib.hid hE
  have HA := Lib.hid hA
  have HN := Lib.hid hN
  obtain ⟨ad, cap, rfl⟩ := amb_form hA
  clear hend hE hA hN
  conv => arg 2; whnf
  go_wp2_with fail
  go_loopw [26] (fun t26 W => ∃ k : Nat, k ≤ am.length ∧ t26 = .int .i64 (k : Int) ∧ Kept wb0 W) (fun t26 _ => am.length - (intOf t26).toNat)
  case atStart => exact ⟨0, Nat.zero_le _, rfl, Kept.refl _⟩
  case round =>
    obtain ⟨k, hk, rfl, kk⟩ := hrel
    have KK := Lib.hid kk
    clear kk
    have e0 := (HE.out.kept KK.out).cell 0
    have e4 := (HE.out.kept KK.out).cell 4
    simp only [List.getElem?_cons_zero, List.getElem?_cons_succ] at e0 e4
    by_cases hlt : k < am.length
    · obtain ⟨g, cap2, hform⟩ : ∃ g cap2, (Value.slice ad am.length cap) = .slice (some ⟨g, 0, none⟩) am.length cap2 := by
        rcases HA.out.2 with ⟨_, e⟩ | ⟨g, cap2, cur, e1, _⟩
        · omega
        · exact ⟨g, cap2, e1⟩
      simp only [Value.slice.injEq, true_and] at hform
      obtain ⟨rfl, rfl⟩ := hform
      have hc : ∀ i, i < 5 → wr.cell? ⟨g, k * 5 + i, none⟩ = (imp (am.getD k (0, 0)).1 (am.getD k (0, 0)).2)[i]? := fun i hi => by
        have h1 := ambV_at am k i hlt hi
        obtain ⟨u, hu⟩ : ∃ u, (imp (am.getD k (0, 0)).1 (am.getD k (0, 0)).2)[i]? = some u := ⟨_, List.getElem?_eq_getElem (by simpa [imp] using hi)⟩
        rw [hu] at h1 ⊢
        have h2 := HA.out.cells (g := g) rfl _ _ h1
        rw [Addr.add_mid, Nat.zero_add] at h2
        exact KK.out.cell h2
      have x0 := hc 0 (by omega)
      have x1 := hc 1 (by omega)
      have x2 := hc 2 (by omega)
      have x3 := hc 3 (by omega)
      have x4 := hc 4 (by omega)
      obtain ⟨hne, hcall⟩ := HN.out k hlt
      have HC := Lib.hid (fun W (kw : Kept wr W) => hcall W (KK.out.trans kw))
      clear hc hcall
      generalize (am.getD k (0, 0)).1 = q at *
      generalize (am.getD k (0, 0)).2 = r at *
      unfold imp at x0 x1 x2 x3 x4
      simp only [List.getElem?_cons_zero, List.getElem?_cons_succ, Nat.add_zero] at x0 x1 x2 x3 x4
      have hqt : ((q : Int) == (t : Int)) = false := by simp; omega
      have k2 : (k : Int) < (am.length : Int) := by omega
      clear hne
      go_upto_region 57 with fail
      go_upto_region 58 with fail
      have K7 := Lib.hid ((Kept.refl wr).alloc (.cells #[.slice none 0 0, .int .i32 0, .int .u32 (q : Int), .int .u32 (r : Int), .int .u32 (q : Int)] 53))
      have B7 := Blk.new wr 53 [.slice none 0 0, .int .i32 0, .int .u32 (q : Int), .int .u32 (r : Int), .int .u32 (q : Int)]
      have y1 := B7.cell 1
      have y2 := B7.cell 2
      have y3 := B7.cell 3
      have y4 := B7.cell 4
      simp only [List.getElem?_cons_zero, List.getElem?_cons_succ] at y1 y2 y3 y4
      have e4 := K7.out.cell e4
      generalize wr.alloc (.cells #[.slice none 0 0, .int .i32 0, .int .u32 (q : Int), .int .u32 (r : Int), .int .u32 (q : Int)] 53) = w7 at *
      clear B7 x0 x1 x2 x3 x4 e0
      go_wp2_with fail
      refine (HC.out _ K7.out).mono ?_
      rintro e w8 ⟨rfl, k8⟩
      have K8 := Lib.hid ((KK.out.trans K7.out).trans k8)
      clear k8 HC
      go_wp2_with fail
      go_roundw
      case rel => exact ⟨k + 1, by omega, by go_num, K8.out⟩
      case measure => simp [intOf]; omega
    · obtain rfl : k = am.length := by omega
      go_wp2_with fail
      refine HEND.out _ _ _ _ _ _ _ _ _ _ _ _ _ _ _ _ _ _ _ _ _ _ _ _ _ _ _ _ _ _ _ _ _ _ _ _ _ _ KK.out
end Go.Proofs.Ytknmcbhcbomjmaa.xs
