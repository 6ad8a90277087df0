/-
  A piece of the first law's function over this seat's program: the worklist.
  Conditions: what lies in memory behind the call.
-/
import Derived.Test.YtknmcbhcbomjmaaXp
import Derived.BigRegion
import Derived.LoopTactic
import Derived.Outline
import Derived.IntWalk
import Derived.Deep.QuietTactic
import Derived.BigQuiet
import Derived.Deep.RegionHeld3
import Derived.Deep.RegionWith
import Derived.Deep.CutBlock
import Derived.Deep.CutRange
import Derived.Deep.DeepCutAuto
import Derived.OwnWalk
import Derived.WalkMore
import Derived.Deep.LoopGhost
import Derived.Test.YtknmcbhcbomjmaaWork
import Derived.OwnWalk
namespace Go.Proofs.Ytknmcbhcbomjmaa.xs
open Go.ChangeShapes Go.WideShapes Go.ChangeAt Go.RowKit
open kit
open Go.Maps (Keyed)
open Go.ChangeMaps (setBlock)

def open_ (n : Nat) (d : Nat → Bool) : Nat := (List.range n).countP fun i => !d i
theorem open_mono {n : Nat} {d d2 : Nat → Bool} (hm : ∀ x, d x = true → d2 x = true) : open_ n d2 ≤ open_ n d := by
  unfold open_
  refine List.countP_mono_left fun x _ hx => ?_
  cases h : d x
  · rfl
  · rw [hm x h] at hx; cases hx
theorem open_lt {n v : Nat} {d d2 : Nat → Bool} (hm : ∀ x, d x = true → d2 x = true) (hv : v < n) (h : d v = false) (h2 : d2 v = true) : open_ n d2 < open_ n d := by
  induction n with
  | zero => omega
  | succ n ih =>
    unfold open_ at *
    rw [List.range_succ, List.countP_append, List.countP_append]
    by_cases e : v = n
    · subst e
      have := open_mono (n := v) hm
      unfold open_ at this
      simp only [List.countP_cons, List.countP_nil, h, h2]
      simp
      omega
    · have h3 := ih (by omega)
      have h4 := open_mono (n := 1) (d := fun i => d (i + n)) (d2 := fun i => d2 (i + n)) fun x hx => hm _ hx
      unfold open_ at h4
      simp only [List.range_one, List.countP_cons, List.countP_nil, Nat.zero_add] at h4 ⊢
      omega
theorem open_le (n : Nat) (d : Nat → Bool) : open_ n d ≤ n := by
  have := List.countP_le_length (p := fun i => !d i) (l := List.range n)
  simpa [open_] using this
theorem open_upd {n v : Nat} {R : Nat → Bool} (hv : v < n) (h : R v = false) : open_ n (updB R v) < open_ n R :=
  open_lt (fun x hx => updB_mono hx) hv h (updB_same _ _)
def intc (u : Nat) : List Value := [.int .i64 (u : Int)]
def lenOf : Value → Nat
  | .slice _ n _ => n
  | _ => 0
def LW (w3 : World) (fs : List EF) (n s q1 q2 : Nat) (t12 : Value) (W : World) : Prop :=
  ∃ R X wk, Wl (vt fs) (cjF fs) s n R X wk ∧ Wk W w3.heap.size 3 1 intc t12 wk ∧ Bools W q1 n R ∧ Bools W q2 n X ∧ Kept w3 W ∧ 2 * open_ n X + wk.length ≤ 2 * n
def LX (w3 : World) (fs : List EF) (n s q1 q2 u M : Nat) (sr : List Int) (t12 t14 : Value) (W : World) : Prop :=
  ∃ (j : Nat) (R X : Nat → Bool) (wk : List Nat), j ≤ sr.length ∧ t14 = .int .i64 (j : Int) ∧ Wi (vt fs) (cjF fs) s n u (vsf sr j) R X wk ∧ Wk W w3.heap.size 3 1 intc t12 wk ∧ Bools W q1 n R ∧ Bools W q2 n X ∧ Kept w3 W ∧ 2 * open_ n X + wk.length ≤ M
def LE (w3 : World) (fs : List EF) (n s q1 : Nat) (W : World) : Prop := ∃ R, (∀ x, R x = true ↔ InF fs s x) ∧ Bools W q1 n R ∧ Kept w3 W
theorem info3 : (Try.prog.info? 3).map (fun i => (i.zero, i.size, i.bytes)) = some (some (.int .i64 0), 1, 8) := by kernel_rfl
/-- a target pushed onto the worklist -/
theorem pushed {w3 wr w5 : World} {q q2 n u base : Nat} {R X : Nat → Bool} {wk : List Nat} {t v5 : Value} {T : Array Value} (hb : w3.heap.size ≤ base) (hW : Wk wr base 3 1 intc t wk) (hQ : Bools wr q n R) (hQ2 : Bools wr q2 n X) (hK : Kept w3 wr)
    (hown : w5.ownsRow base 3 1 v5 (wk.length + 1) (wk.flatMap intc ++ [.int .i64 (u : Int)])) (hg : (wr.alloc (.cells T 3)).grownBy w5 t.ownBlock) : Wk w5 base 3 1 intc v5 (wk ++ [u]) ∧ Bools w5 q n R ∧ Bools w5 q2 n X ∧ Kept w3 w5 :=
  ⟨Wk.of_own hown (by simp) (by simp [intc]), Blk.grown (Blk.alloc hQ _) hg (fun e => (Blk.notOwned hQ hW.2 (by decide)) e.symm), Blk.grown (Blk.alloc hQ2 _) hg (fun e => (Blk.notOwned hQ2 hW.2 (by decide)) e.symm), keptGrown (hK.alloc _) hg (fun k hk => by have := hW.low k hk; omega)⟩
theorem bools_up {W : World} {q n : Nat} {R : Nat → Bool} (h : Bools W q n R) {t : Nat} (ht : t < n) : Bools (W.setCell ⟨q, t, none⟩ (.bool true)) q n (updB R t) := h.set ht true
set_option maxRecDepth 1000000 in
set_option maxHeartbeats 32000000 in
theorem loopW (w3 wb0 : World) (fs : List EF) (n s b off c q1 q2 : Nat) (t0 : Value) (Q0 : Exit → Act → World → Prop) {a1 a2 a3 a4 a5 a6 a7 a8 a9 a13 a14 a15 a16 a17 a18 a19 a20 a21 a22 a23 a24 a25 a26 a27 a28 a29 a30 a31 a32 a33 a34 a35 a36 a37 a38 a39 a40 a41 a42 a43 a44 a45 a46 a47 a48 a49 a50 a51 a52 a53 a54 a55 a56 a57 a58 a59 a60 a61 a62 a63 a64 a65 a66 a67 a68 a69 a70 a71 a72 a73 a74 a75 a76 a77 a78 a79 a80 a81 a82 a83 a84 a85 a86 a87 a88 a89 a90 a91 a92 a93 a94 a95 a96 a97 a98 a99 a100 a101 a102 a103 a104 a105 a106 a107 a108 a109 a110 a111 a112 a113 a114 a115 a116 a117 a118 a119 a120 a121 a122 a123 a124 a125 a126 a127 a128 a129 a130 a131 a132 a133 a134 a135 a136 a137 a138 a139 a140 a141 a142 a143 a144 a145 a146 a147 a148 a149 a150 a151 a152 a153 a154 a155 a156 a157 a158 a159 a160 a161 a162 a163 a164 a165 a166 a167 a168 a169 a170 a171 a172 a173 a174 a175 a176 a177 a178 a179 a180 a181 a182 a183 a184 a185 a186 a187 a188 a189 a190 a191 a192 a193 a194 a195 a196 a197 a198 a199 a200 a201 a202 a203 a204 a205 a206 a207 a208 a209 a210 a211 a212 a213 a214 a215 a216 a217 a218 a219 a220 a221 a222 a223 a224 a225 a226 a227 a228 a229 a230 a231 a232 a233 a234 a235 a236 a237 a238 a239 a240 a241 a242 a243 a244 a245 a246 a247 a248 a249 a250 a251 a252 a253 a254 a255 a256 a257 a258 a259 a260 a261 a262 a263 a264 a265 a266 a267 a268 a269 a270 a271 a272 a273 a274 a275 a276 a277 a278 a279 a280 a281 a282 a283 a284 a285 a286 a287 a288 a289 a290 a291 a292 a293 a294 a295 a296 a297 a298 a299 a300 a301 a302 a303 a304 a305 a306 a307 a308 a309 a310 a311 a312 a313 a314 a315 a316 a317 a318 a319 a320 a321 a322 a323 a324 a325 a326 a327 a328 a329 a330 a331 a332 a333 a334 a335 a336 a337 : Value}
    (hfs : ∀ i, i < n → FileAt w3 b (off + i * 3) (fs.getD i default)) (hft : Fit n fs) (hq12 : q1 ≠ q2) (hq1 : w3.heap.size ≤ q1) (hq2 : w3.heap.size ≤ q2)
    (hst : LW w3 fs n s q1 q2 t0 wb0)
    (hend : ∀ (z12 z13 z14 z15 z73 z74 z75 z76 z77 z78 z79 z80 z81 z82 z83 z84 z85 z86 z87 z88 z89 z90 z91 z92 z93 z94 z95 z96 z97 z98 z99 z100 z101 z102 z103 z104 z105 z106 z107 z108 z109 z110 z111 z112 z113 z114 z115 z116 z117 z118 z119 z120 z121 z122 z123 z124 z125 z126 z127 z128 z129 z130 : Value) (W : World), LE w3 fs n s q1 W → Q0 Exit.normal ⟨#[.slice (some ⟨b, off, none⟩) n c, a1, a2, a3, a4, a5, a6, a7, a8, a9, .slice (some ⟨q1, 0, none⟩) n n, .slice (some ⟨q2, 0, none⟩) n n, z12, z13, z14, z15, a16, a17, a18, a19, a20, a21, a22, a23, a24, a25, a26, a27, a28, a29, a30, a31, a32, a33, a34, a35, a36, a37, a38, a39, a40, a41, a42, a43, a44, a45, a46, a47, a48, a49, a50, a51, a52, a53, a54, a55, a56, a57, a58, a59, a60, a61, a62, a63, a64, a65, a66, a67, a68, a69, a70, a71, a72, z73, z74, z75, z76, z77, z78, z79, z80, z81, z82, z83, z84, z85, z86, z87, z88, z89, z90, z91, z92, z93, z94, z95, z96, z97, z98, z99, z100, z101, z102, z103, z104, z105, z106, z107, z108, z109, z110, z111, z112, z113, z114, z115, z116, z117, z118, z119, z120, z121, z122, z123, z124, z125, z126, z127, z128, z129, z130, a131, a132, a133, a134, a135, a136, a137, a138, a139, a140, a141, a142, a143, a144, a145, a146, a147, a148, a149, a150, a151, a152, a153, a154, a155, a156, a157, a158, a159, a160, a161, a162, a163, a164, a165, a166, a167, a168, a169, a170, a171, a172, a173, a174, a175, a176, a177, a178, a179, a180, a181, a182, a183, a184, a185, a186, a187, a188, a189, a190, a191, a192, a193, a194, a195, a196, a197, a198, a199, a200, a201, a202, a203, a204, a205, a206, a207, a208, a209, a210, a211, a212, a213, a214, a215, a216, a217, a218, a219, a220, a221, a222, a223, a224, a225, a226, a227, a228, a229, a230, a231, a232, a233, a234, a235, a236, a237, a238, a239, a240, a241, a242, a243, a244, a245, a246, a247, a248, a249, a250, a251, a252, a253, a254, a255, a256, a257, a258, a259, a260, a261, a262, a263, a264, a265, a266, a267, a268, a269, a270, a271, a272, a273, a274, a275, a276, a277, a278, a279, a280, a281, a282, a283, a284, a285, a286, a287, a288, a289, a290, a291, a292, a293, a294, a295, a296, a297, a298, a299, a300, a301, a302, a303, a304, a305, a306, a307, a308, a309, a310, a311, a312, a313, a314, a315, a316, a317, a318, a319, a320, a321, a322, a323, a324, a325, a326, a327, a328, a329, a330, a331, a332, a333, a334, a335, a336, a337], []⟩ W) :
    Code.wp Try.prog pieceW Q0 ⟨#[.slice (some ⟨b, off, none⟩) n c, a1, a2, a3, a4, a5, a6, a7, a8, a9, .slice (some ⟨q1, 0, none⟩) n n, .slice (some ⟨q2, 0, none⟩) n n, t0, a13, a14, a15, a16, a17, a18, a19, a20, a21, a22, a23, a24, a25, a26, a27, a28, a29, a30, a31, a32, a33, a34, a35, a36, a37, a38, a39, a40, a41, a42, a43, a44, a45, a46, a47, a48, a49, a50, a51, a52, a53, a54, a55, a56, a57, a58, a59, a60, a61, a62, a63, a64, a65, a66, a67, a68, a69, a70, a71, a72, a73, a74, a75, a76, a77, a78, a79, a80, a81, a82, a83, a84, a85, a86, a87, a88, a89, a90, a91, a92, a93, a94, a95, a96, a97, a98, a99, a100, a101, a102, a103, a104, a105, a106, a107, a108, a109, a110, a111, a112, a113, a114, a115, a116, a117, a118, a119, a120, a121, a122, a123, a124, a125, a126, a127, a128, a129, a130, a131, a132, a133, a134, a135, a136, a137, a138, a139, a140, a141, a142, a143, a144, a145, a146, a147, a148, a149, a150, a151, a152, a153, a154, a155, a156, a157, a158, a159, a160, a161, a162, a163, a164, a165, a166, a167, a168, a169, a170, a171, a172, a173, a174, a175, a176, a177, a178, a179, a180, a181, a182, a183, a184, a185, a186, a187, a188, a189, a190, a191, a192, a193, a194, a195, a196, a197, a198, a199, a200, a201, a202, a203, a204, a205, a206, a207, a208, a209, a210, a211, a212, a213, a214, a215, a216, a217, a218, a219, a220, a221, a222, a223, a224, a225, a226, a227, a228, a229, a230, a231, a232, a233, a234, a235, a236, a237, a238, a239, a240, a241, a242, a243, a244, a245, a246, a247, a248, a249, a250, a251, a252, a253, a254, a255, a256, a257, a258, a259, a260, a261, a262, a263, a264, a265, a266, a267, a268, a269, a270, a271, a272, a273, a274, a275, a276, a277, a278, a279, a280, a281, a282, a283, a284, a285, a286, a287, a288, a289, a290, a291, a292, a293, a294, a295, a296, a297, a298, a299, a300, a301, a302, a303, a304, a305, a306, a307, a308, a309, a310, a311, a312, a313, a314, a315, a316, a317, a318, a319, a320, a321, a322, a323, a324, a325, a326, a327, a328, a329, a330, a331, a332, a333, a334, a335, a336, a337], []⟩ wb0 := by
  have HEND := Lib.hid hend
  have HF := Lib.hid hfs
  have HFT := Lib.hid hft
  have HST := Lib.hid hst
  have HQQ := Lib.hid (And.intro hq12 (And.intro hq1 hq2))
  have hn := hft.top
  obtain ⟨i0, hi, hz0, hz1, hz2⟩ := info_parts info3
  clear hend hfs hft hst hq12 hq1 hq2
  conv => arg 2; whnf
  go_wp2_with fail
  go_loopw [12] (fun t12 W => LW w3 fs n s q1 q2 t12 W) (fun t12 W => 2 * noes W q2 n + lenOf t12)
  case atStart => exact HST.out
  case round =>
    obtain ⟨R, X, wk, hWl, hWk, hQ, hX, hK, hM⟩ := hrel
    obtain ⟨wo, rfl⟩ : ∃ wo : World, wo = wr := ⟨_, rfl⟩
    clear HST
    rcases List.eq_nil_or_concat wk with rfl | ⟨wk, u, rfl⟩
    · obtain ⟨⟨a5, c5, rfl⟩, _⟩ := hWk
      have HN : Hid (LE w3 fs n s q1 wo) := Lib.hid ⟨R, hWl.ends, hQ, hK⟩
      clear hWl hQ hX hK hM
      go_wp2_with fail
      refine HEND.out _ _ _ _ _ _ _ _ _ _ _ _ _ _ _ _ _ _ _ _ _ _ _ _ _ _ _ _ _ _ _ _ _ _ _ _ _ _ _ _ _ _ _ _ _ _ _ _ _ _ _ _ _ _ _ _ _ _ _ _ _ _ _ HN.out
    · rw [List.concat_eq_append] at hWl hWk hM
      obtain ⟨g, c2, rfl, hc2, hc3, hcell, hWk2⟩ := Wk.pop (f := intc) (size := 1) (fun _ => rfl) hWk
      have x0 : wo.cell? ⟨g, wk.length, none⟩ = some (.int .i64 (u : Int)) := by
        have := hcell 0 (by omega)
        simp only [Nat.mul_one, Nat.add_zero] at this
        exact this
      have hu := (hWl.low u (by simp)).1
      have HWi := Lib.hid hWl.pop
      have HWk := Lib.hid hWk2
      have HQ := Lib.hid hQ
      have HX := Lib.hid hX
      have HK := Lib.hid hK
      have HN := Lib.hid hX.noes
      simp only [List.length_append, List.length_singleton] at hM
      clear hWl hWk hWk2 hQ hX hK hcell
      obtain ⟨_, _, y2, _, hr⟩ := HF.out u hu
      have z2 := HK.out.cell y2
      have Y2 := Lib.hid y2
      have YR := Lib.hid hr
      have HLEN : Hid ((fs.getD u default).sr.length ≤ 262144) := Lib.hid (HFT.out.len u hu)
      have HLOW : Hid (∀ j, j < (fs.getD u default).sr.length → (fs.getD u default).sr.getD j 0 < (n : Int)) := Lib.hid (HFT.out.low u hu)
      have HVT : Hid (vt fs u = vsf (fs.getD u default).sr (fs.getD u default).sr.length) := Lib.hid rfl
      clear y2 hr
      generalize hm : wk.length = m at *
      have HM := Lib.hid hm
      clear hm
      have hc4 : c2 ≤ 9223372036854775807 := by unfold maxLen at hc3; exact hc3
      clear hc3
      have u0 : (0 : Int) ≤ (u : Int) := by omega
      have u1 : (u : Int) < (n : Int) := by omega
      generalize fs.getD u default = f at *
      obtain ⟨ek, ex, sr, ia, ic, ia2, ic2⟩ := f
      dsimp only at z2 Y2 YR HLEN HLOW HVT
      have hL : sr.length ≤ 262144 := HLEN.out
      clear HLEN
      as_aux_lemma =>
        have HI0 : Hid (LX w3 fs n s q1 q2 u (2 * open_ n X + m) sr (.slice (some ⟨g, 0, none⟩) m c2) (.int .i64 0) wo) := Lib.hid ⟨0, R, X, wk, Nat.zero_le _, rfl, HWi.out, HWk.out, HQ.out, HX.out, HK.out, by have := HM.out; omega⟩
        clear HWi HWk HQ
        go_wp2_with fail
        clear z2 x0
        go_loopw [12, 14] (fun t12 t14 W => LX w3 fs n s q1 q2 u (2 * open_ n X + m) sr t12 t14 W) (fun _ t14 _ => sr.length - (intOf t14).toNat)
        case atStart => exact HI0.out
        case round =>
          obtain ⟨j, R2, X2, wk2, hj, rfl, hWi, hWk, hQ, hX2, hK2, hM2⟩ := hrel
          clear HI0
          have HWi := Lib.hid hWi
          have HWk := Lib.hid hWk
          have HQ := Lib.hid hQ
          have HX2 := Lib.hid hX2
          have HK2 := Lib.hid hK2
          have HM2 := Lib.hid hM2
          obtain ⟨⟨a6, c6, rfl⟩, _⟩ := hWk
          clear hWi hQ hX2 hK2 hM2
          have z2 := HK2.out.cell Y2.out
          by_cases hlt : j < sr.length
          · obtain ⟨b3, off3, rfl, _, xj⟩ := (YR.out.kept HK2.out).at_ 0 hlt
            have hy1 := HLOW.out j hlt
            have HVS := Lib.hid (vsf_succ sr j)
            have HMEM : Hid (∀ t : Nat, sr.getD j 0 = (t : Int) → t ∈ vt fs u) := Lib.hid (fun t ht => by
              rw [HVT.out]
              refine List.mem_filterMap.2 ⟨j, List.mem_range.2 hlt, ?_⟩
              unfold tg
              rw [ht, if_pos (by omega)]
              simp)
            have j0 : (j : Int) < (sr.length : Int) := by omega
            generalize sr.getD j 0 = y at *
            by_cases hy : 0 ≤ y
            · obtain ⟨t, rfl⟩ := Int.eq_ofNat_of_zero_le hy
              have htn : t < n := by omega
              have HVT2 : Hid (vsf sr (j + 1) = vsf sr j ++ [t]) := Lib.hid (by rw [HVS.out]; unfold tg; rw [if_pos hy]; simp)
              have HMT := Lib.hid (HMEM.out t rfl)
              obtain ⟨k0, _, _, _, _⟩ := HF.out t htn
              have k0 := HK2.out.cell k0
              have HEK : Hid (cjF fs t = ((fs.getD t default).ek == 1)) := Lib.hid rfl
              generalize (fs.getD t default).ek = et at *
              have hneg : decide ((t : Int) < 0) = false := by simp
              clear HVS HMEM
              cases hc : (et == 1) with
              | true =>
                have HNX : Hid (LX w3 fs n s q1 q2 u (2 * open_ n X + m) sr (.slice a6 wk2.length c6) (.int .i64 ((j : Int) + 1)) wr) := Lib.hid ⟨j + 1, R2, X2, wk2, by omega, by go_num, by rw [HVT2.out]; exact HWi.out.skip (by rw [HEK.out]; exact hc), HWk.out, HQ.out, HX2.out, HK2.out, HM2.out⟩
                clear HEK
                go_wp2_with fail
                go_roundw
                case rel => exact HNX.out
                case measure => simp [intOf]; omega
              | false =>
                have HED : Hid (Edge (vt fs) (cjF fs) u t) := Lib.hid ⟨HMT.out, by rw [HEK.out]; exact hc⟩
                have q0 := HQ.out.cell htn
                have q1f := HQ.out.free t
                go_upto_region 26 with fail
                have HQ3 := Lib.hid (bools_up HQ.out htn)
                have HX3 := Lib.hid (HX2.out.far (p := ⟨q1, t, none⟩) (fun e => HQQ.out.1 e.symm) (.bool true))
                have HW3 := Lib.hid (HWk.out.farBlk HQ.out (by decide) t (.bool true))
                have HK3 := Lib.hid (HK2.out.setCell (p := ⟨q1, t, none⟩) HQQ.out.2.1 (.bool true))
                clear q0 q1f xj z2 k0 HQ HX2 HWk HK2
                generalize wr.setCell ⟨q1, t, none⟩ (.bool true) = wt at *
                as_aux_lemma =>
                  have q0 := HX3.out.cell htn
                  have q1f := HX3.out.free t
                  cases hXt : X2 t with
                  | true =>
                    rw [hXt] at q0
                    have HNX : Hid (LX w3 fs n s q1 q2 u (2 * open_ n X + m) sr (.slice a6 wk2.length c6) (.int .i64 ((j : Int) + 1)) wt) := Lib.hid ⟨j + 1, _, X2, wk2, by omega, by go_num, by rw [HVT2.out]; exact HWi.out.old HED.out hXt, HW3.out, HQ3.out, HX3.out, HK3.out, HM2.out⟩
                    clear hXt
                    go_wp2_with fail
                    go_roundw
                    case rel => exact HNX.out
                    case measure => simp [intOf]; omega
                  | false =>
                    rw [hXt] at q0
                    have HXT := Lib.hid hXt
                    clear hXt
                    go_upto_region 28 with fail
                    have HX4 := Lib.hid (bools_up HX3.out htn)
                    have HQ4 := Lib.hid (HQ3.out.far (p := ⟨q2, t, none⟩) HQQ.out.1 (.bool true))
                    have HW4 := Lib.hid (HW3.out.farBlk HX3.out (by decide) t (.bool true))
                    have HK4 := Lib.hid (HK3.out.setCell (p := ⟨q2, t, none⟩) HQQ.out.2.2 (.bool true))
                    clear q0 q1f HX3 HQ3 HW3 HK3
                    generalize wt.setCell ⟨q2, t, none⟩ (.bool true) = wu at *
                    have hown := HW4.out.2
                    have hl2 : wk2.length ≤ 8192 := by
                      have h1 := HM2.out
                      have h2 := open_le n X
                      have h3 := HM2.out
                      have h4 : m ≤ 2 * n := by omega
                      omega
                    have hsz := HK4.out.size
                    have W64 : IntKind.i64.wrap (t : Int) = (t : Int) := IntWalk.i64_in _ (by omega)
                    go_wp2_with (at_builtin; refine wpList_append_own _ rfl _ _ 35 rfl w3.heap.size 3 i0 (.int .i64 0) 1 8 Try.underlying35 hi hz0 hz1 hz2 rfl (by decide) _ _ _ rfl (hown.alloc _) ⟨wu.heap.size, 0, none⟩ 1 1 [.int .i64 (t : Int)] rfl rfl (newsOf wu [.int .i64 (t : Int)] 3) (by simp [Value.oneCell']) (by unfold maxLen; omega) (by omega) (by simp; omega) ?_; intro v7 w7 hown7 hgrow7 _)
                    obtain ⟨p1, p2, p3, p4⟩ := pushed (u := t) (Nat.le_refl _) HW4.out HQ4.out HX4.out HK4.out hown7 hgrow7
                    have HNX : Hid (LX w3 fs n s q1 q2 u (2 * open_ n X + m) sr v7 (.int .i64 ((j : Int) + 1)) w7) := Lib.hid ⟨j + 1, _, _, wk2 ++ [t], by omega, by go_num, by rw [HVT2.out]; exact HWi.out.new HED.out htn, p1, p2, p3, p4, by
                      have h1 := open_upd htn HXT.out
                      have h2 := HM2.out
                      simp only [List.length_append, List.length_singleton]
                      omega⟩
                    clear p1 p2 p3 p4 hown hown7 hgrow7 hsz
                    go_wp2_with fail
                    go_roundw
                    case rel => exact HNX.out
                    case measure => simp [intOf]; omega
            · have HNX : Hid (LX w3 fs n s q1 q2 u (2 * open_ n X + m) sr (.slice a6 wk2.length c6) (.int .i64 ((j : Int) + 1)) wr) := Lib.hid ⟨j + 1, R2, X2, wk2, by omega, by go_num, by rw [HVS.out]; unfold tg; rw [if_neg hy]; simpa using HWi.out, HWk.out, HQ.out, HX2.out, HK2.out, HM2.out⟩
              clear HVS HMEM
              go_wp2_with fail
              go_roundw
              case rel => exact HNX.out
              case measure => simp [intOf]; omega
          · obtain rfl : j = sr.length := by omega
            have HNX : Hid (LW w3 fs n s q1 q2 (.slice a6 wk2.length c6) wr) := Lib.hid ⟨R2, X2, wk2, HWi.out.fin (fun t ht => by rw [← HVT.out]; exact ht), HWk.out, HQ.out, HX2.out, HK2.out, by have := HM2.out; omega⟩
            go_wp2_with fail
            go_roundw
            case rel => exact HNX.out
            case measure =>
              rw [HN.out, HX2.out.noes]
              have := HM2.out
              unfold open_ at this
              simp only [lenOf]
              omega
end Go.Proofs.Ytknmcbhcbomjmaa.xs
