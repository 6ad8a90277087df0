/-
  A piece of the first law's function over this seat's program: who holds an entry's binding.
  Conditions: what lies in memory behind the call.
-/
import Derived.Test.YtknmcbhcbomjmaaXp
import Derived.BigRegion
import Derived.LoopTactic
import Derived.Outline
import Derived.IntWalk
import Derived.Deep.QuietTactic
import Derived.BigQuiet
import Derived.Deep.RegionHeld3
import Derived.Deep.RegionWith
import Derived.Deep.CutBlock
import Derived.Deep.CutRange
import Derived.Deep.DeepCutAuto
import Derived.OwnWalk
import Derived.WalkMore
import Derived.Deep.LoopGhost
namespace Go.Proofs.Ytknmcbhcbomjmaa.xs
open Go.ChangeShapes Go.WideShapes Go.ChangeAt Go.RowKit
open kit
open Go.Maps (Keyed)
open Go.ChangeMaps (setBlock)

set_option maxRecDepth 1000000 in
set_option maxHeartbeats 32000000 in
theorem loopH (wb0 : World) (s n q1 bE t j rb : Nat) (J IB bn : Nat → Nat) (β : Nat → Nat × Nat → Bool) (Rr : Nat → Bool) (Vv : Value) (Q0 : Exit → Act → World → Prop) {a0 a2 a3 a4 a7 a8 a9 a11 a12 a13 a14 a15 a16 a17 a18 a19 a20 a21 a22 a23 a25 a26 a27 a30 a31 a32 a33 a34 a35 a36 a37 a38 a39 a40 a41 a42 a43 a44 a45 a46 a47 a48 a49 a50 a51 a52 a53 a54 a55 a56 a57 a58 a59 a60 a61 a62 a63 a64 a65 a66 a67 a68 a69 a70 a71 a72 a73 a74 a75 a76 a77 a78 a79 a80 a81 a82 a83 a84 a85 a86 a87 a88 a89 a90 a91 a92 a93 a94 a95 a96 a97 a98 a99 a100 a101 a102 a103 a104 a105 a106 a107 a108 a109 a110 a111 a112 a113 a114 a115 a116 a117 a118 a119 a120 a121 a122 a123 a124 a125 a126 a127 a128 a129 a130 a131 a132 a133 a134 a135 a136 a137 a138 a139 a140 a141 a142 a143 a144 a145 a146 a147 a148 a149 a150 a151 a152 a153 a154 a155 a156 a157 a158 a159 a160 a161 a162 a163 a164 a165 a166 a167 a168 a169 a170 a171 a172 a173 a174 a175 a176 a177 a178 a179 a180 a181 a182 a183 a184 a185 a186 a187 a188 a189 a190 a191 a192 a193 a194 a195 a196 a197 a198 a199 a200 a201 a202 a203 a204 a205 a206 a207 a208 a209 a210 a211 a212 a213 a214 a215 a216 a217 a218 a219 a220 a221 a222 a223 a224 a225 a226 a227 a228 a229 a230 a231 a232 a233 a234 a235 a236 a237 a238 a239 a240 a241 a242 a243 a244 a245 a246 a247 a248 a249 a250 a251 a252 a253 a254 a255 a256 a257 a258 a259 a260 a261 a262 a263 a264 a265 a266 a267 a268 a269 a270 a271 a272 a273 a274 a275 a276 a277 a278 a279 a280 a281 a282 a283 a284 a285 a286 a287 a288 a289 a290 a291 a292 a293 a294 a295 a296 a297 a298 a299 a300 a301 a302 a303 a304 a305 a306 a307 a308 a309 a310 a311 a312 a313 a314 a315 a316 a317 a318 a319 a320 a321 a322 a323 a324 a325 a326 a327 a328 a329 a330 a331 a332 a333 a334 a335 a336 a337 : Value}
    (hn : n ≤ 256) (hsn : s < n) (ht : t ≤ 4294967295) (hj : j ≤ 4294967295) (hE : Blk wb0 bE 48 [Vv, .int .u32 (t : Int), .int .u32 (j : Int), .int .i32 0, .int .u32 (t : Int)])
    (hr : ∀ i, i < n → wb0.cell? ⟨rb, i, none⟩ = some (.pointer (some ⟨J i, 0, none⟩))) (hi : ∀ i, i < n → wb0.cell? ⟨J i, 1, none⟩ = some (.map (some (IB i)))) (hm : ∀ i, i < n → mapf.MapF Try.prog 44 wb0 (IB i) (bn i) (bndV (β i)))
    (hq : Bools wb0 q1 n Rr) (i0 : Nat) (h0 : i0 < n) (h1 : β i0 (t, j) = true) (h2 : ∀ i, β i (t, j) = true → i = i0) (h3 : i0 = s ∨ Rr i0 = true)
    (hend : ∀ (z4 z29 z30 z31 z255 z256 z257 z258 z259 z260 z261 z262 z263 z264 z265 z266 z267 z268 z269 z270 z271 z272 z273 z274 z275 z276 z277 z278 z279 z280 z281 z282 z283 z284 z285 z286 z287 z288 z289 z290 z291 z292 z293 z294 z295 z296 z297 z298 z299 z300 z301 z302 z303 z304 z305 z306 z307 z308 z309 z310 z311 z312 : Value) (W : World), Kept wb0 W → Q0 Exit.normal ⟨#[a0, .int .u32 (s : Int), a2, a3, z4, .int .i64 (n : Int), .slice (some ⟨rb, 0, none⟩) n n, a7, a8, a9, .slice (some ⟨q1, 0, none⟩) n n, a11, a12, a13, a14, a15, a16, a17, a18, a19, a20, a21, a22, a23, .pointer (some ⟨bE, 0, none⟩), a25, a26, a27, .int .i64 1, z29, z30, z31, a32, a33, a34, a35, a36, a37, a38, a39, a40, a41, a42, a43, a44, a45, a46, a47, a48, a49, a50, a51, a52, a53, a54, a55, a56, a57, a58, a59, a60, a61, a62, a63, a64, a65, a66, a67, a68, a69, a70, a71, a72, a73, a74, a75, a76, a77, a78, a79, a80, a81, a82, a83, a84, a85, a86, a87, a88, a89, a90, a91, a92, a93, a94, a95, a96, a97, a98, a99, a100, a101, a102, a103, a104, a105, a106, a107, a108, a109, a110, a111, a112, a113, a114, a115, a116, a117, a118, a119, a120, a121, a122, a123, a124, a125, a126, a127, a128, a129, a130, a131, a132, a133, a134, a135, a136, a137, a138, a139, a140, a141, a142, a143, a144, a145, a146, a147, a148, a149, a150, a151, a152, a153, a154, a155, a156, a157, a158, a159, a160, a161, a162, a163, a164, a165, a166, a167, a168, a169, a170, a171, a172, a173, a174, a175, a176, a177, a178, a179, a180, a181, a182, a183, a184, a185, a186, a187, a188, a189, a190, a191, a192, a193, a194, a195, a196, a197, a198, a199, a200, a201, a202, a203, a204, a205, a206, a207, a208, a209, a210, a211, a212, a213, a214, a215, a216, a217, a218, a219, a220, a221, a222, a223, a224, a225, a226, a227, a228, a229, a230, a231, a232, a233, a234, a235, a236, a237, a238, a239, a240, a241, a242, a243, a244, a245, a246, a247, a248, a249, a250, a251, a252, a253, a254, z255, z256, z257, z258, z259, z260, z261, z262, z263, z264, z265, z266, z267, z268, z269, z270, z271, z272, z273, z274, z275, z276, z277, z278, z279, z280, z281, z282, z283, z284, z285, z286, z287, z288, z289, z290, z291, z292, z293, z294, z295, z296, z297, z298, z299, z300, z301, z302, z303, z304, z305, z306, z307, z308, z309, z310, z311, z312, a313, a314, a315, a316, a317, a318, a319, a320, a321, a322, a323, a324, a325, a326, a327, a328, a329, a330, a331, a332, a333, a334, a335, a336, a337], []⟩ W) :
    Code.wp Try.prog pieceH Q0 ⟨#[a0, .int .u32 (s : Int), a2, a3, a4, .int .i64 (n : Int), .slice (some ⟨rb, 0, none⟩) n n, a7, a8, a9, .slice (some ⟨q1, 0, none⟩) n n, a11, a12, a13, a14, a15, a16, a17, a18, a19, a20, a21, a22, a23, .pointer (some ⟨bE, 0, none⟩), a25, a26, a27, .int .i64 0, .int .i64 0, a30, a31, a32, a33, a34, a35, a36, a37, a38, a39, a40, a41, a42, a43, a44, a45, a46, a47, a48, a49, a50, a51, a52, a53, a54, a55, a56, a57, a58, a59, a60, a61, a62, a63, a64, a65, a66, a67, a68, a69, a70, a71, a72, a73, a74, a75, a76, a77, a78, a79, a80, a81, a82, a83, a84, a85, a86, a87, a88, a89, a90, a91, a92, a93, a94, a95, a96, a97, a98, a99, a100, a101, a102, a103, a104, a105, a106, a107, a108, a109, a110, a111, a112, a113, a114, a115, a116, a117, a118, a119, a120, a121, a122, a123, a124, a125, a126, a127, a128, a129, a130, a131, a132, a133, a134, a135, a136, a137, a138, a139, a140, a141, a142, a143, a144, a145, a146, a147, a148, a149, a150, a151, a152, a153, a154, a155, a156, a157, a158, a159, a160, a161, a162, a163, a164, a165, a166, a167, a168, a169, a170, a171, a172, a173, a174, a175, a176, a177, a178, a179, a180, a181, a182, a183, a184, a185, a186, a187, a188, a189, a190, a191, a192, a193, a194, a195, a196, a197, a198, a199, a200, a201, a202, a203, a204, a205, a206, a207, a208, a209, a210, a211, a212, a213, a214, a215, a216, a217, a218, a219, a220, a221, a222, a223, a224, a225, a226, a227, a228, a229, a230, a231, a232, a233, a234, a235, a236, a237, a238, a239, a240, a241, a242, a243, a244, a245, a246, a247, a248, a249, a250, a251, a252, a253, a254, a255, a256, a257, a258, a259, a260, a261, a262, a263, a264, a265, a266, a267, a268, a269, a270, a271, a272, a273, a274, a275, a276, a277, a278, a279, a280, a281, a282, a283, a284, a285, a286, a287, a288, a289, a290, a291, a292, a293, a294, a295, a296, a297, a298, a299, a300, a301, a302, a303, a304, a305, a306, a307, a308, a309, a310, a311, a312, a313, a314, a315, a316, a317, a318, a319, a320, a321, a322, a323, a324, a325, a326, a327, a328, a329, a330, a331, a332, a333, a334, a335, a336, a337], []⟩ wb0 := by
  have HEND := Lib.hid hend
  have HE := Lib.hid hE
  have HR := Lib.hid hr
  have HI := Lib.hid hi
  have HM := Lib.hid hm
  have HQ := Lib.hid hq
  have H12 := Lib.hid (And.intro h1 (And.intro h2 h3))
  obtain ⟨kl, hkl⟩ := key44 t j ht hj
  have HKL := Lib.hid hkl
  clear hend hE hr hi hm hq h1 h2 h3 hkl
  conv => arg 2; whnf
  go_wp2_with fail
  go_loopw [28, 29] (fun t28 t29 W => ∃ k m : Nat, k ≤ n ∧ m ≤ 1 ∧ t29 = .int .i64 (k : Int) ∧ t28 = .int .i64 (m : Int) ∧ Hid (m = if i0 < k then 1 else 0) ∧ Kept wb0 W) (fun _ t29 _ => n - (intOf t29).toNat)
  case atStart => exact ⟨0, 0, Nat.zero_le _, by omega, rfl, rfl, Lib.hid (by rw [if_neg (by omega)]), Kept.refl _⟩
  case round =>
    obtain ⟨k, m, hk, hm1, rfl, rfl, HC, kk⟩ := hrel
    have KK := Lib.hid kk
    clear kk
    by_cases hlt : k < n
    · have x0 := KK.out.cell (HR.out k hlt)
      have x1 := KK.out.cell (HI.out k hlt)
      have hz53 : ∀ W : World, (zeroValue 53).run Try.prog W = .ok (.agg #[.slice none 0 0, .int .i32 0, .int .u32 0, .int .u32 0, .int .u32 0]) W := fun W => by kernel_rfl
      have e1 := (HE.out.kept KK.out).cell 1
      have e2 := (HE.out.kept KK.out).cell 2
      have e4 := (HE.out.kept KK.out).cell 4
      simp only [List.getElem?_cons_zero, List.getElem?_cons_succ] at e1 e2 e4
      have q0 := (HQ.out.kept KK.out).cell hlt
      have hlk := fun (W : World) (kw : Kept wr W) => ((HM.out k hlt).kept (KK.out.trans kw)).look K44 Try.underlying56 (hz53 W) HKL.out true
      clear hz53
      have k2 : (k : Int) < (n : Int) := by omega
      have W1 : IntKind.i64.wrap (s : Int) = (s : Int) := IntWalk.i64_in _ (by omega)
      have hd := (Kept.refl wr).drew
      cases hb : β k (t, j) with
      | false =>
        have HN : Hid ((m : Nat) = if i0 < k + 1 then 1 else 0) := Lib.hid (by
          have e : k ≠ i0 := fun c => by rw [c, H12.out.1] at hb; cases hb
          rw [HC.out]
          by_cases c : i0 < k
          · rw [if_pos c, if_pos (by omega)]
          · rw [if_neg c, if_neg (by omega)])
        simp only [bndV_ref, hb, if_false, if_true, Bool.false_eq_true, Option.getD_none, Option.isSome_none] at hlk
        unfold refK at hlk
        have hlk1 := hlk _ hd
        have ka : Kept wr (wr.alloc (.cells #[.slice none 0 0, .int .i32 0, .int .u32 0, .int .u32 0, .int .u32 0] 53)).drew := ((Kept.refl wr).alloc _).drew
        have hlk2 := hlk _ ka
        have x0a := ka.cell x0
        have x1a := ka.cell x1
        have e1a := ka.cell e1
        have e2a := ka.cell e2
        clear hb hlk
        go_upto_region 64 with fail
        go_region
        all_goals
          have KE := Lib.hid (KK.out.trans (((Kept.refl wr).alloc (.cells #[.slice none 0 0, .int .i32 0, .int .u32 0, .int .u32 0, .int .u32 0] 53)).drew))
          clear hlk1 hlk2 x0 x1 x0a x1a e1 e2 e1a e2a e4 q0 hd ka
          generalize (wr.alloc (.cells #[.slice none 0 0, .int .i32 0, .int .u32 0, .int .u32 0, .int .u32 0] 53)).drew = w7 at *
          generalize wr.heap.size = g7 at *
          as_aux_lemma =>
            go_wp2_with fail
            go_roundw
            case rel => exact ⟨k + 1, m, by omega, hm1, by go_num, rfl, HN, KE.out⟩
            case measure => simp [intOf]; omega
      | true =>
        obtain rfl : k = i0 := H12.out.2.1 k hb
        have hm0 : m = 0 := by rw [HC.out, if_neg (by omega)]
        subst hm0
        have HN : Hid ((1 : Nat) = if k < k + 1 then 1 else 0) := Lib.hid (by rw [if_pos (by omega)])
        have hor : k = s ∨ Rr k = true := H12.out.2.2
        simp only [bndV_ref, hb, if_true, Option.getD_some, Option.isSome_some] at hlk
        unfold refK impV at hlk
        have hlk1 := hlk _ hd
        have ka : Kept wr (wr.alloc (.cells #[.slice none 0 0, .int .i32 0, .int .u32 0, .int .u32 0, .int .u32 0] 53)).drew := ((Kept.refl wr).alloc _).drew
        have hlk2 := hlk _ ka
        have x0a := ka.cell x0
        have x1a := ka.cell x1
        have e1a := ka.cell e1
        have e2a := ka.cell e2
        clear hb hlk
        go_upto_region 64 with fail
        go_region
        all_goals
          have kz : Kept wr (wr.alloc (.cells #[.slice none 0 0, .int .i32 0, .int .u32 (t : Int), .int .u32 (j : Int), .int .u32 (t : Int)] 53)).drew := ((Kept.refl wr).alloc _).drew
          have KE := Lib.hid (KK.out.trans kz)
          have B7 := (Blk.new wr 53 [.slice none 0 0, .int .i32 0, .int .u32 (t : Int), .int .u32 (j : Int), .int .u32 (t : Int)]).drew
          have y0 := B7.cell 0
          have y1 := B7.cell 1
          have y2 := B7.cell 2
          have y3 := B7.cell 3
          have y4 := B7.cell 4
          simp only [List.getElem?_cons_zero, List.getElem?_cons_succ] at y0 y1 y2 y3 y4
          have e1 := kz.cell e1
          have e2 := kz.cell e2
          have e4 := kz.cell e4
          have q0 := kz.cell q0
          clear hlk1 hlk2 x0 x1 x0a x1a e1a e2a hd ka kz B7
          have NQ := fun W => neq44 W (t : Int) (j : Int)
          generalize (wr.alloc (.cells #[.slice none 0 0, .int .i32 0, .int .u32 (t : Int), .int .u32 (j : Int), .int .u32 (t : Int)] 53)).drew = w7 at *
          generalize wr.heap.size = g7 at *
          as_aux_lemma =>
            by_cases hks : k = s
            · subst hks
              go_wp2_with fail
              go_roundw
              case rel => exact ⟨k + 1, 1, by omega, by omega, by go_num, by go_num, HN, KE.out⟩
              case measure => simp [intOf]; omega
            · have hr1 : Rr k = true := hor.resolve_left hks
              rw [hr1] at q0
              have hks2 : ((k : Int) == (s : Int)) = false := by simp; omega
              clear hor
              go_wp2_with fail
              go_roundw
              case rel => exact ⟨k + 1, 1, by omega, by omega, by go_num, by go_num, HN, KE.out⟩
              case measure => simp [intOf]; omega
    · obtain rfl : k = n := by omega
      have hm2 : m = 1 := by rw [HC.out, if_pos h0]
      subst hm2
      go_wp2_with fail
      refine HEND.out _ _ _ _ _ _ _ _ _ _ _ _ _ _ _ _ _ _ _ _ _ _ _ _ _ _ _ _ _ _ _ _ _ _ _ _ _ _ _ _ _ _ _ _ _ _ _ _ _ _ _ _ _ _ _ _ _ _ _ _ _ _ _ KK.out
end Go.Proofs.Ytknmcbhcbomjmaa.xs
