/-
  A piece of the first law's function over this seat's program: one file's names.
  Conditions: what lies in memory behind the call.
-/
import Derived.Test.YtknmcbhcbomjmaaXp
import Derived.BigRegion
import Derived.LoopTactic
import Derived.Outline
import Derived.IntWalk
import Derived.Deep.QuietTactic
import Derived.BigQuiet
import Derived.Deep.RegionHeld3
import Derived.Deep.RegionWith
import Derived.Deep.CutBlock
import Derived.Deep.CutRange
import Derived.Deep.DeepCutAuto
import Derived.OwnWalk
import Derived.WalkMore
import Derived.Deep.LoopGhost
import Derived.Test.YtknmcbhcbomjmaaXk
import Derived.Test.YtknmcbhcbomjmaaXh
namespace Go.Proofs.Ytknmcbhcbomjmaa.xs
open Go.ChangeShapes Go.WideShapes Go.ChangeAt Go.RowKit
open kit
open Go.Maps (Keyed)
open Go.ChangeMaps (setBlock)

/-- the counting loop's state: own names, names seen (S), names counted (dl) -/
structure Cn (w3 : World) (fs : List EF) (n s : Nat) (ρ : ByteArray → Option Ent) (q1 ob sb no : Nat) (Rr : Nat → Bool) (W : World) (v j ns : Nat) (S : ByteArray → Prop) (dl : List ByteArray) : Prop where
  kept : Kept w3 W
  own : mapf.MapF Try.prog 9 W ob no (setV (exNE fs s))
  seen : mapf.MapF Try.prog 9 W sb ns (setV S)
  bools : Bools W q1 n Rr
  sn : Sn ρ S dl
  len : dl.length ≤ nm fs v + j
  past : ∀ u, u < v → Rr u = true → ∀ x, exNE fs u x → S x
  now : ∀ i, i < j → S ((exF fs v).getD i ByteArray.empty)
section
variable {w3 W W2 : World} {fs : List EF} {n s : Nat} {ρ : ByteArray → Option Ent} {q1 ob sb no : Nat} {Rr : Nat → Bool} {v j ns : Nat} {S : ByteArray → Prop} {dl : List ByteArray}
theorem Cn.kept2 (h : Cn w3 fs n s ρ q1 ob sb no Rr W v j ns S dl) (k : Kept W W2) : Cn w3 fs n s ρ q1 ob sb no Rr W2 v j ns S dl :=
  ⟨h.kept.trans k, h.own.kept k, h.seen.kept k, h.bools.kept k, h.sn, h.len, h.past, h.now⟩
theorem Cn.old (h : Cn w3 fs n s ρ q1 ob sb no Rr W v j ns S dl) (hS : S ((exF fs v).getD j ByteArray.empty)) : Cn w3 fs n s ρ q1 ob sb no Rr W v (j + 1) ns S dl :=
  ⟨h.kept, h.own, h.seen, h.bools, h.sn, by have := h.len; omega, h.past, fun i hi => by
    by_cases e : i = j
    · rw [e]; exact hS
    · exact h.now i (by omega)⟩
theorem Cn.store (h : Cn w3 fs n s ρ q1 ob sb no Rr W v j ns S dl) (hsb : w3.heap.size ≤ sb) (hne : ob ≠ sb) {o : Obj} : Kept w3 (setBlock W sb o) ∧ mapf.MapF Try.prog 9 (setBlock W sb o) ob no (setV (exNE fs s)) ∧ Bools (setBlock W sb o) q1 n Rr :=
  ⟨kept_setBlock h.kept hsb o, h.own.of_block (sb_other W sb o hne), (sb_other W sb o (blk_ne h.bools h.seen)).trans h.bools⟩
/-- a name new to the list of those seen -/
theorem Cn.new (h : Cn w3 fs n s ρ q1 ob sb no Rr W v j ns S dl) {a : ByteArray} (ha : a = (exF fs v).getD j ByteArray.empty) (hS : ¬ S a) {m : Nat} {dl2 : List ByteArray} (k2 : Kept w3 W2) (ho : mapf.MapF Try.prog 9 W2 ob no (setV (exNE fs s))) (hs : mapf.MapF Try.prog 9 W2 sb m (setV fun x => S x ∨ x = a)) (hb : Bools W2 q1 n Rr)
    (hd : Sn ρ (fun x => S x ∨ x = a) dl2) (hl : dl2.length ≤ dl.length + 1) : Cn w3 fs n s ρ q1 ob sb no Rr W2 v (j + 1) m (fun x => S x ∨ x = a) dl2 :=
  ⟨k2, ho, hs, hb, hd, by have := h.len; omega, fun u hu hr x hx => .inl (h.past u hu hr x hx), fun i hi => by
    by_cases e : i = j
    · rw [e, ha]; exact .inr rfl
    · exact .inl (h.now i (by omega))⟩
theorem Cn.next (h : Cn w3 fs n s ρ q1 ob sb no Rr W v (exF fs v).length ns S dl) : Cn w3 fs n s ρ q1 ob sb no Rr W (v + 1) 0 ns S dl :=
  ⟨h.kept, h.own, h.seen, h.bools, h.sn, by have := h.len; rw [nm_succ]; omega, fun u hu hr x hx => by
    by_cases e : u = v
    · subst e
      obtain ⟨i, hi, rfl⟩ := NEf_is.1 hx
      exact h.now i hi
    · exact h.past u (by omega) hr x hx, fun i hi => absurd hi (by omega)⟩
theorem Cn.skip (h : Cn w3 fs n s ρ q1 ob sb no Rr W v 0 ns S dl) (hr : Rr v = false) : Cn w3 fs n s ρ q1 ob sb no Rr W (v + 1) 0 ns S dl :=
  ⟨h.kept, h.own, h.seen, h.bools, h.sn, by have := h.len; rw [nm_succ]; omega, fun u hu hr2 x hx => by
    by_cases e : u = v
    · subst e
      rw [hr] at hr2; cases hr2
    · exact h.past u (by omega) hr2 x hx, fun i hi => absurd hi (by omega)⟩
end
def MJ (w3 : World) (fs : List EF) (n s : Nat) (ρ : ByteArray → Option Ent) (q1 ob sb no : Nat) (Rr : Nat → Bool) (v : Nat) (t19 t21 : Value) (W : World) : Prop := ∃ (j ns : Nat) (S : ByteArray → Prop) (dl : List ByteArray), j ≤ (exF fs v).length ∧ t21 = .int .i64 (j : Int) ∧ t19 = .int .i64 (dl.length : Int) ∧ Cn w3 fs n s ρ q1 ob sb no Rr W v j ns S dl
def MV (w3 : World) (fs : List EF) (n s : Nat) (ρ : ByteArray → Option Ent) (q1 ob sb no : Nat) (Rr : Nat → Bool) (v : Nat) (t19 : Value) (W : World) : Prop := ∃ (ns : Nat) (S : ByteArray → Prop) (dl : List ByteArray), t19 = .int .i64 (dl.length : Int) ∧ Cn w3 fs n s ρ q1 ob sb no Rr W v 0 ns S dl
theorem call10 {w3 W : World} {fs : List EF} {n s b off rb RES B0 c q1 t j : Nat} {J IB : Nat → Nat} {V : ByteArray → Value} {ρ : ByteArray → Option Ent} {R : Nat} {β : Nat → Nat × Nat → Bool} {bn : Nat → Nat} {Rr : Nat → Bool} {a : ByteArray} (H : Aft w3 fs n s b off rb RES B0 J IB V ρ R β bn) (hRr : ∀ x, Rr x = true ↔ InF fs s x)
    (k : Kept w3 W) (hq : Bools W q1 n Rr) (hi : InF fs s t) (ht : t < n) (hN : NEf fs t a = some j) : Calls Try.prog 10 #[.slice (some ⟨b, off, none⟩) n c, .slice (some ⟨q1, 0, none⟩) n n, .int .u32 (t : Int), .agg #[.int .u32 (t : Int), .int .u32 (j : Int)], .string a] W (YesKept W) := by
  obtain ⟨h1, h2⟩ := NEf_at hN
  have := names W b off n c q1 t j Rr (fs.getD t default) H.fit.top ht ((H.files t ht).kept k) hq ((hRr t).2 hi) h1 (H.fit.ex ht)
  rw [show (fs.getD t default).ex.getD j ByteArray.empty = a from h2] at this
  exact this
set_option maxRecDepth 1000000 in
set_option maxHeartbeats 32000000 in
theorem loopJ (w3 wb0 : World) (fs : List EF) (n s b off c rb RES B0 q1 ob sb no v d0 : Nat) (J IB : Nat → Nat) (V : ByteArray → Value) (ρ : ByteArray → Option Ent) (R : Nat) (β : Nat → Nat × Nat → Bool) (bn : Nat → Nat) (Rr : Nat → Bool) (Q0 : Exit → Act → World → Prop) {a2 a3 a4 a7 a8 a11 a12 a13 a14 a15 a17 a22 a23 a24 a25 a26 a27 a28 a29 a30 a31 a32 a33 a34 a35 a36 a37 a38 a39 a40 a41 a42 a43 a44 a45 a46 a47 a48 a49 a50 a51 a52 a53 a54 a55 a56 a57 a58 a59 a60 a61 a62 a63 a64 a65 a66 a67 a68 a69 a70 a71 a72 a73 a74 a75 a76 a77 a78 a79 a80 a81 a82 a83 a84 a85 a86 a87 a88 a89 a90 a91 a92 a93 a94 a95 a96 a97 a98 a99 a100 a101 a102 a103 a104 a105 a106 a107 a108 a109 a110 a111 a112 a113 a114 a115 a116 a117 a118 a119 a120 a121 a122 a123 a124 a125 a126 a127 a128 a129 a130 a131 a132 a133 a134 a135 a136 a137 a138 a139 a140 a141 a142 a143 a144 a145 a146 a147 a148 a149 a150 a151 a152 a153 a154 a155 a156 a157 a158 a159 a160 a161 a162 a163 a164 a165 a166 a167 a168 a169 a170 a171 a172 a173 a174 a175 a176 a177 a178 a179 a180 a181 a182 a183 a184 a185 a186 a187 a188 a189 a190 a191 a192 a193 a194 a195 a196 a197 a198 a199 a200 a201 a202 a203 a204 a205 a206 a207 a208 a209 a210 a211 a212 a213 a214 a215 a216 a217 a218 a219 a220 a221 a222 a223 a224 a225 a226 a227 a228 a229 a230 a231 a232 a233 a234 a235 a236 a237 a238 a239 a240 a241 a242 a243 a244 a245 a246 a247 a248 a249 a250 a251 a252 a253 a254 a255 a256 a257 a258 a259 a260 a261 a262 a263 a264 a265 a266 a267 a268 a269 a270 a271 a272 a273 a274 a275 a276 a277 a278 a279 a280 a281 a282 a283 a284 a285 a286 a287 a288 a289 a290 a291 a292 a293 a294 a295 a296 a297 a298 a299 a300 a301 a302 a303 a304 a305 a306 a307 a308 a309 a310 a311 a312 a313 a314 a315 a316 a317 a318 a319 a320 a321 a322 a323 a324 a325 a326 a327 a328 a329 a330 a331 a332 a333 a334 a335 a336 a337 : Value}
    (H : Aft w3 fs n s b off rb RES B0 J IB V ρ R β bn) (hRr : ∀ x, Rr x = true ↔ InF fs s x) (hsb : w3.heap.size ≤ sb) (hos : ob ≠ sb) (hv : v < n) (hvR : Rr v = true)
    (hst : MJ w3 fs n s ρ q1 ob sb no Rr v (.int .i64 (d0 : Int)) (.int .i64 0) wb0)
    (hend : ∀ (z4 z21 z22 z23 z24 z25 z26 z27 z28 z29 z30 z31 z162 z163 z164 z165 z166 z167 z168 z169 z170 z171 z172 z173 z174 z175 z176 z177 z178 z179 z180 z181 z182 z183 z184 z185 z186 z187 z188 z189 z190 z191 z192 z193 z194 z195 z196 z197 z198 z199 z200 z201 z202 z203 z204 z205 z206 z207 z208 z209 z210 z211 z212 z213 z214 z215 z216 z217 z218 z219 z220 z221 z222 z223 z224 z225 z226 z227 z228 z229 z230 z231 z232 z233 z234 z235 z236 z237 z238 z239 z240 z241 z242 z243 z244 z245 z246 z247 z248 z249 z250 z251 z252 z253 z254 z255 z256 z257 z258 z259 z260 z261 z262 z263 z264 z265 z266 z267 z268 z269 z270 z271 z272 z273 z274 z275 z276 z277 z278 z279 z280 z281 z282 z283 z284 z285 z286 z287 z288 z289 z290 z291 z292 z293 z294 z295 z296 z297 z298 z299 z300 z301 z302 z303 z304 z305 z306 z307 z308 z309 z310 z311 z312 z313 z314 t19 : Value) (W : World), MV w3 fs n s ρ q1 ob sb no Rr (v + 1) t19 W → Q0 Exit.normal ⟨#[.slice (some ⟨b, off, none⟩) n c, .int .u32 (s : Int), a2, a3, z4, .int .i64 (n : Int), .slice (some ⟨rb, 0, none⟩) n n, a7, a8, .map (some RES), .slice (some ⟨q1, 0, none⟩) n n, a11, a12, a13, a14, a15, .map (some ob), a17, .map (some sb), t19, .int .i64 (v : Int), z21, z22, z23, z24, z25, z26, z27, z28, z29, z30, z31, a32, a33, a34, a35, a36, a37, a38, a39, a40, a41, a42, a43, a44, a45, a46, a47, a48, a49, a50, a51, a52, a53, a54, a55, a56, a57, a58, a59, a60, a61, a62, a63, a64, a65, a66, a67, a68, a69, a70, a71, a72, a73, a74, a75, a76, a77, a78, a79, a80, a81, a82, a83, a84, a85, a86, a87, a88, a89, a90, a91, a92, a93, a94, a95, a96, a97, a98, a99, a100, a101, a102, a103, a104, a105, a106, a107, a108, a109, a110, a111, a112, a113, a114, a115, a116, a117, a118, a119, a120, a121, a122, a123, a124, a125, a126, a127, a128, a129, a130, a131, a132, a133, a134, a135, a136, a137, a138, a139, a140, a141, a142, a143, a144, a145, a146, a147, a148, a149, a150, a151, a152, a153, a154, a155, a156, a157, a158, a159, a160, a161, z162, z163, z164, z165, z166, z167, z168, z169, z170, z171, z172, z173, z174, z175, z176, z177, z178, z179, z180, z181, z182, z183, z184, z185, z186, z187, z188, z189, z190, z191, z192, z193, z194, z195, z196, z197, z198, z199, z200, z201, z202, z203, z204, z205, z206, z207, z208, z209, z210, z211, z212, z213, z214, z215, z216, z217, z218, z219, z220, z221, z222, z223, z224, z225, z226, z227, z228, z229, z230, z231, z232, z233, z234, z235, z236, z237, z238, z239, z240, z241, z242, z243, z244, z245, z246, z247, z248, z249, z250, z251, z252, z253, z254, z255, z256, z257, z258, z259, z260, z261, z262, z263, z264, z265, z266, z267, z268, z269, z270, z271, z272, z273, z274, z275, z276, z277, z278, z279, z280, z281, z282, z283, z284, z285, z286, z287, z288, z289, z290, z291, z292, z293, z294, z295, z296, z297, z298, z299, z300, z301, z302, z303, z304, z305, z306, z307, z308, z309, z310, z311, z312, z313, z314, a315, a316, a317, a318, a319, a320, a321, a322, a323, a324, a325, a326, a327, a328, a329, a330, a331, a332, a333, a334, a335, a336, a337], []⟩ W) :
    Code.wp Try.prog pieceJ Q0 ⟨#[.slice (some ⟨b, off, none⟩) n c, .int .u32 (s : Int), a2, a3, a4, .int .i64 (n : Int), .slice (some ⟨rb, 0, none⟩) n n, a7, a8, .map (some RES), .slice (some ⟨q1, 0, none⟩) n n, a11, a12, a13, a14, a15, .map (some ob), a17, .map (some sb), .int .i64 (d0 : Int), .int .i64 (v : Int), .int .i64 0, a22, a23, a24, a25, a26, a27, a28, a29, a30, a31, a32, a33, a34, a35, a36, a37, a38, a39, a40, a41, a42, a43, a44, a45, a46, a47, a48, a49, a50, a51, a52, a53, a54, a55, a56, a57, a58, a59, a60, a61, a62, a63, a64, a65, a66, a67, a68, a69, a70, a71, a72, a73, a74, a75, a76, a77, a78, a79, a80, a81, a82, a83, a84, a85, a86, a87, a88, a89, a90, a91, a92, a93, a94, a95, a96, a97, a98, a99, a100, a101, a102, a103, a104, a105, a106, a107, a108, a109, a110, a111, a112, a113, a114, a115, a116, a117, a118, a119, a120, a121, a122, a123, a124, a125, a126, a127, a128, a129, a130, a131, a132, a133, a134, a135, a136, a137, a138, a139, a140, a141, a142, a143, a144, a145, a146, a147, a148, a149, a150, a151, a152, a153, a154, a155, a156, a157, a158, a159, a160, a161, a162, a163, a164, a165, a166, a167, a168, a169, a170, a171, a172, a173, a174, a175, a176, a177, a178, a179, a180, a181, a182, a183, a184, a185, a186, a187, a188, a189, a190, a191, a192, a193, a194, a195, a196, a197, a198, a199, a200, a201, a202, a203, a204, a205, a206, a207, a208, a209, a210, a211, a212, a213, a214, a215, a216, a217, a218, a219, a220, a221, a222, a223, a224, a225, a226, a227, a228, a229, a230, a231, a232, a233, a234, a235, a236, a237, a238, a239, a240, a241, a242, a243, a244, a245, a246, a247, a248, a249, a250, a251, a252, a253, a254, a255, a256, a257, a258, a259, a260, a261, a262, a263, a264, a265, a266, a267, a268, a269, a270, a271, a272, a273, a274, a275, a276, a277, a278, a279, a280, a281, a282, a283, a284, a285, a286, a287, a288, a289, a290, a291, a292, a293, a294, a295, a296, a297, a298, a299, a300, a301, a302, a303, a304, a305, a306, a307, a308, a309, a310, a311, a312, a313, a314, a315, a316, a317, a318, a319, a320, a321, a322, a323, a324, a325, a326, a327, a328, a329, a330, a331, a332, a333, a334, a335, a336, a337], []⟩ wb0 := by
  have HEND := Lib.hid hend
  have HA := Lib.hid H
  have HRR := Lib.hid hRr
  have HST := Lib.hid hst
  have HOS := Lib.hid hos
  have HSB := Lib.hid hsb
  have HVR := Lib.hid hvR
  have hn := H.fit.top
  clear hend H hRr hst hos hsb hvR
  conv => arg 2; whnf
  go_wp2_with fail
  go_loopw [19, 21] (fun t19 t21 W => MJ w3 fs n s ρ q1 ob sb no Rr v t19 t21 W) (fun _ t21 _ => (exF fs v).length - (intOf t21).toNat)
  case atStart => exact HST.out
  case round =>
    obtain ⟨j, ns, S, dl, hj, rfl, rfl, hC⟩ := hrel
    have HC := Lib.hid hC
    clear hC HST
    obtain ⟨_, c1, _, hr, _⟩ := HA.out.files v hv
    have x1 := HC.out.kept.cell c1
    have hex := HA.out.fit.ex hv
    have hdl : dl.length ≤ 8192 := by
      have h1 := HC.out.len
      have h2 := nm_mono fs (show v ≤ n by omega)
      have h3 := HA.out.fit.names
      omega
    have hlx : (fs.getD v default).ex.length = (exF fs v).length := rfl
    rw [hlx] at x1 hr
    have HR := Lib.hid (hr.kept HC.out.kept)
    clear c1 hr hlx
    by_cases hlt : j < (exF fs v).length
    · have hrow : Row wr (fs.getD v default).a (exF fs v).length (fs.getD v default).c ((exF fs v).map Value.string) := HR.out
      obtain ⟨b2, o2, e2, _, x2⟩ := hrow.at_ ByteArray.empty hlt
      rw [e2] at x1
      have hmem : (exF fs v).getD j ByteArray.empty ∈ exF fs v := by
        rw [List.getD_eq_getElem?_getD, List.getElem?_eq_getElem hlt]; exact List.getElem_mem _
      have HKL := Lib.hid (WideMaps.keyOf_string_mk (P := Try.prog) Try.underlying9 (HA.out.str v hv _ hmem))
      have HEXV : Hid (exNE fs v ((exF fs v).getD j ByteArray.empty)) := Lib.hid (NEf_is.2 ⟨j, hlt, rfl⟩)
      obtain ⟨a, ha⟩ : ∃ a, a = (exF fs v).getD j ByteArray.empty := ⟨_, rfl⟩
      have HAE := Lib.hid ha
      rw [← ha] at x2 HKL HEXV
      have j2 : (j : Int) < ((exF fs v).length : Int) := by omega
      have hz4 : ∀ W : World, (zeroValue 4).run Try.prog W = .ok (.bool false) W := fun W => by kernel_rfl
      have hlk := HC.out.seen.look K9 Try.underlying41 (hz4 _) HKL.out false
      generalize (fs.getD v default).c = cx at *
      obtain ⟨m, hm⟩ : ∃ m, m = (exF fs v).length := ⟨_, rfl⟩
      rw [← hm] at x1 j2
      clear hrow hmem ha HR e2
      by_cases hS : S a
      · have e1 : setV S (.string a) = some (.bool true) := by simp [setV, hS]
        rw [e1] at hlk
        simp only [if_false, Bool.false_eq_true, Option.getD_some] at hlk
        have HN := Lib.hid (HC.out.old (by rw [← HAE.out]; exact hS))
        clear e1 hz4 hS
        go_wp2_with fail
        go_roundw
        case rel => exact ⟨j + 1, ns, S, dl, hlt, by go_num, rfl, HN.out⟩
        case measure => simp [intOf]; omega
      · have e1 : setV S (.string a) = none := by simp [setV, hS]
        rw [e1] at hlk
        simp only [if_false, Bool.false_eq_true, Option.getD_none] at hlk
        have HS := Lib.hid hS
        clear e1 hS
        go_upto_region 46 with (at_mapUpdate; refine mapf.wpList_put rfl _ _ _ 41 rfl K9 Try.underlying41 sb ns (setV S) rfl HC.out.seen (.string a) _ rfl HKL.out (.bool true) rfl ?_; intro w5 hob hm5)
        obtain ⟨ob5, rfl⟩ := hob
        rw [setV_put] at hm5
        obtain ⟨k5, o5, q5⟩ := HC.out.store HSB.out HOS.out (o := ob5)
        have HK5 := Lib.hid k5
        have HO5 := Lib.hid o5
        have HQ5 := Lib.hid q5
        have HM5 := Lib.hid hm5
        clear k5 o5 q5 hm5 hlk x1 x2
        generalize setBlock wr sb ob5 = w5 at *
        clear hz4
        have hz4 : ∀ W : World, (zeroValue 4).run Try.prog W = .ok (.bool false) W := fun W => by kernel_rfl
        have hlo := HO5.out.look K9 Try.underlying41 (hz4 _) HKL.out false
        simp only [if_false, Bool.false_eq_true] at hlo
        have hbo2 := setV_is (exNE fs s) a
        rw [setV_val] at hlo
        generalize (setV (exNE fs s) (.string a)).isSome = bo at *
        have hz48 : ∀ W : World, (zeroValue 48).run Try.prog W = .ok (.agg #[.slice none 0 0, .int .u32 0, .int .u32 0, .int .i32 0, .int .u32 0]) W := fun W => by kernel_rfl
        have hlr := (HA.out.res.kept HK5.out).look K9 Try.underlying32 (hz48 _) HKL.out true
        have hiff := HA.out.is a
        have hvin := (HRR.out v).1 HVR.out
        clear hz4 hz48
        cases hρ : ρ a with
        | none =>
          have HNX := Lib.hid (fun (W : World) (k : Kept w5 W) => HC.out.new HAE.out HS.out (HK5.out.trans k) (HO5.out.kept k) (HM5.out.kept k) (HQ5.out.kept k) (HC.out.sn.no (by rw [hρ]; rfl)) (by omega))
          have e1 : resV V ρ (.string a) = none := by simp [resV, hρ]
          rw [e1] at hlr
          simp only [if_true, Option.getD_none, Option.isSome_none] at hlr
          rw [hρ] at hiff
          clear e1 hρ
          cases hdf : (a.toList == [100, 101, 102, 97, 117, 108, 116]) with
          | true =>
            clear hiff hbo2 hvin
            as_aux_lemma =>
              go_wp2_with fail
              go_roundw
              case rel => exact ⟨j + 1, _, _, _, hlt, by go_num, rfl, HNX.out _ ((Kept.refl _).alloc _)⟩
              case measure => simp [intOf]; omega
          | false =>
            obtain rfl : bo = true := by
              rw [hbo2]
              apply Classical.byContradiction
              intro c
              have := hiff.2 ⟨fun q => (by rw [(dflt_iff a).2 q] at hdf; cases hdf), c, v, hvin, hv, HEXV.out⟩
              cases this
            clear hiff hbo2 hvin
            as_aux_lemma =>
              go_wp2_with fail
              go_roundw
              case rel => exact ⟨j + 1, _, _, _, hlt, by go_num, rfl, HNX.out _ ((Kept.refl _).alloc _)⟩
              case measure => simp [intOf]; omega
        | some e =>
          have HRHO := Lib.hid hρ
          have HNX := Lib.hid (fun (W : World) (k : Kept w5 W) => HC.out.new HAE.out HS.out (HK5.out.trans k) (HO5.out.kept k) (HM5.out.kept k) (HQ5.out.kept k) (HC.out.sn.yes HS.out (by rw [hρ]; rfl)) (by simp))
          have e1 : resV V ρ (.string a) = some (resE (V a) e.src e.j) := by simp [resV, hρ]
          rw [hρ] at hiff
          obtain ⟨q1', q2', _⟩ := hiff.1 rfl
          have hdf : (a.toList == [100, 101, 102, 97, 117, 108, 116]) = false := by
            cases h : (a.toList == [100, 101, 102, 97, 117, 108, 116]) with
            | false => rfl
            | true => exact absurd ((dflt_iff a).1 h) q1'
          obtain rfl : bo = false := by
            cases bo
            · rfl
            · exact absurd (hbo2.1 rfl) q2'
          obtain ⟨av, capv, hV⟩ := amb_form (HA.out.amb a e hρ).1
          rw [e1, hV] at hlr
          unfold resE at hlr
          simp only [if_true, Option.getD_some, Option.isSome_some] at hlr
          have HV := Lib.hid hV
          obtain ⟨g1, g2, g3, g4⟩ := HA.out.ent a e HRHO.out
          obtain ⟨i0, g5, g6, g7, g8⟩ := HA.out.hold a e HRHO.out
          have hsrc : e.src ≤ 4294967295 := by omega
          have hej : e.j ≤ 4294967295 := by have := (NEf_at g3).1; have := HA.out.fit.ex g2; omega
          have HG := Lib.hid (And.intro g1 (And.intro g2 (And.intro g3 g4)))
          have HI := Lib.hid (And.intro g5 (And.intro g6 (And.intro g7 g8)))
          clear e1 hρ hiff hbo2 hvin q1' q2' hV g1 g2 g3 g4 g5 g6 g7 g8
          go_upto_region 48 with fail
          have HK6 := Lib.hid ((Kept.refl w5).alloc (.cells #[.slice av e.amb.length capv, .int .u32 (e.src : Int), .int .u32 (e.j : Int), .int .i32 0, .int .u32 (e.src : Int)] 48))
          have HB6 := Lib.hid (Blk.new w5 48 [.slice av e.amb.length capv, .int .u32 (e.src : Int), .int .u32 (e.j : Int), .int .i32 0, .int .u32 (e.src : Int)])
          clear hlo hlr
          simp only [List.toArray] at HB6
          generalize w5.alloc (.cells #[.slice av e.amb.length capv, .int .u32 (e.src : Int), .int .u32 (e.j : Int), .int .i32 0, .int .u32 (e.src : Int)] 48) = w6 at *
          generalize w5.heap.size = gE at *
          as_aux_lemma =>
            have x1 := HB6.out.cell 1
            have x2 := HB6.out.cell 2
            have x3 := HB6.out.cell 3
            have x4 := HB6.out.cell 4
            simp only [List.getElem?_cons_zero, List.getElem?_cons_succ] at x1 x2 x3 x4
            have HCALL := Lib.hid (fun (W : World) (k : Kept w6 W) (t j : Nat) (h1 : InF fs s t) (h2 : t < n) (h3 : NEf fs t a = some j) => call10 (c := c) HA.out HRR.out ((HK5.out.trans HK6.out).trans k) ((HQ5.out.kept HK6.out).kept k) h1 h2 h3)
            go_wp2_with fail
            refine (HCALL.out w6 (Kept.refl _) _ _ HG.out.1 HG.out.2.1 HG.out.2.2.1).mono ?_
            rintro e' w7 ⟨rfl, k7⟩
            have HK7 := Lib.hid k7
            clear k7 x1 x2 x3 x4
            go_upto_block 10 with fail
            refine loopK w7 b off n c q1 gE e.src e.j B0 _ e.amb a _ (HB6.out.kept HK7.out) (by rw [← HV.out]; exact own_kept (HA.out.amb a e HRHO.out).1 ((HK5.out.trans HK6.out).trans HK7.out)) (HA.out.amb a e HRHO.out).2 (fun k hk => by
              have hm : e.amb.getD k (0, 0) ∈ e.amb := by
                rw [List.getD_eq_getElem?_getD, List.getElem?_eq_getElem hk]; exact List.getElem_mem _
              obtain ⟨r1, r2, r3, r4⟩ := HG.out.2.2.2 _ hm
              exact ⟨r1, fun W kw => HCALL.out W (HK7.out.trans kw) _ _ r2 r3 r4⟩) ?_
            intro k4 k26 k27 k221 k222 k223 k224 k225 k226 k227 k228 k229 k230 k231 k232 k233 k234 k235 k236 k237 k238 k239 k240 k241 k242 k243 k244 k245 k246 k247 k248 k249 k250 k251 k252 k253 k254 w8 k8
            have HK8 := Lib.hid (HK7.out.trans k8)
            clear k8 HK7
            go_upto_block 12 with fail
            refine loopH w8 s n q1 gE e.src e.j rb J IB bn β Rr _ _ hn HA.out.sn hsrc hej (HB6.out.kept HK8.out) (fun i hi => ((HK5.out.trans HK6.out).trans HK8.out).cell (HA.out.repr i hi)) (fun i hi => ((HK5.out.trans HK6.out).trans HK8.out).cell (HA.out.bind i hi)) (fun i hi => (HA.out.bnd i hi).kept ((HK5.out.trans HK6.out).trans HK8.out))
              ((HQ5.out.kept HK6.out).kept HK8.out) i0 HI.out.2.1 HI.out.2.2.1 HI.out.2.2.2 (HI.out.1.imp id fun q => (HRR.out i0).2 q) ?_
            intro h4 h29 h30 h31 h255 h256 h257 h258 h259 h260 h261 h262 h263 h264 h265 h266 h267 h268 h269 h270 h271 h272 h273 h274 h275 h276 h277 h278 h279 h280 h281 h282 h283 h284 h285 h286 h287 h288 h289 h290 h291 h292 h293 h294 h295 h296 h297 h298 h299 h300 h301 h302 h303 h304 h305 h306 h307 h308 h309 h310 h311 h312 w9 k9
            have HN := Lib.hid (HNX.out w9 ((HK6.out.trans HK8.out).trans k9))
            have hl1 : (dl ++ [a]).length = dl.length + 1 := by simp
            clear k9
            go_wp2_with fail
            go_roundw
            case rel => exact ⟨j + 1, _, _, _, hlt, by go_num, by rw [hl1]; go_num, HN.out⟩
            case measure => simp [intOf]; omega
    · obtain rfl : j = (exF fs v).length := by omega
      have HN : Hid (MV w3 fs n s ρ q1 ob sb no Rr (v + 1) (.int .i64 (dl.length : Int)) wr) := Lib.hid ⟨ns, S, dl, rfl, HC.out.next⟩
      clear HC HR
      generalize (exF fs v).length = m at *
      go_wp2_with fail
      refine HEND.out _ _ _ _ _ _ _ _ _ _ _ _ _ _ _ _ _ _ _ _ _ _ _ _ _ _ _ _ _ _ _ _ _ _ _ _ _ _ _ _ _ _ _ _ _ _ _ _ _ _ _ _ _ _ _ _ _ _ _ _ _ _ _ _ _ _ _ _ _ _ _ _ _ _ _ _ _ _ _ _ _ _ _ _ _ _ _ _ _ _ _ _ _ _ _ _ _ _ _ _ _ _ _ _ _ _ _ _ _ _ _ _ _ _ _ _ _ _ _ _ _ _ _ _ _ _ _ _ _ _ _ _ _ _ _ _ _ _ _ _ _ _ _ _ _ _ _ _ _ _ _ _ _ _ _ _ _ _ _ _ _ _ _ _ _ _ _ HN.out
end Go.Proofs.Ytknmcbhcbomjmaa.xs
