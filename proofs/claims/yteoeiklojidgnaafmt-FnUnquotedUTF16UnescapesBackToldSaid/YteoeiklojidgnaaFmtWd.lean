/-
  The default arm: a byte of ASCII, a lone high surrogate.
  Conditions: the output stays below 2^40 bytes.
-/
import Derived.Test.YteoeiklojidgnaaFmtWpc
import Derived.LoopTactic
import Derived.Deep.CutBlock
import Derived.Deep.CutRange
import Derived.Deep.RegionHeld3
import Derived.Test.YteoeiklojidgnaaFmtTake
namespace Go.Proofs.YteoeiklojidgnaaFmt.uw
open Go.ChangeShapes Go.WideShapes Go.ChangeAt Go.RowKit
open kit pr uq

set_option maxRecDepth 1000000 in
set_option maxHeartbeats 32000000 in
theorem dflt1 (w0 wb : World) (g q tb tof N tc k i n c : Nat) (cs : List Value) (U L0 : List Int) (T : List Tok) (b : Bool) (A : Option Addr) (s qt : Int) (cu : Int) (Q0 : Exit → Act → World → Prop) {a3 a4 a5 a6 a7 a13 a15 a16 a17 a18 a19 a20 a21 a22 a23 a24 a25 a26 a27 a28 a29 a30 a31 a32 a33 a34 a35 a36 a37 a38 a39 a40 a41 a42 a43 a44 a45 a46 a47 a48 a49 a50 a51 a52 a53 a54 a55 a56 a57 a58 a59 a60 a61 a62 a63 a64 a65 a66 a67 a68 a69 a70 a71 a72 a73 a74 a75 a76 a77 a78 a79 a80 a81 a82 a83 a84 a85 a87 a88 a89 a90 a91 a92 a93 a94 a95 a96 a97 a98 a99 a100 a101 a102 a103 a104 a105 a106 a107 a108 a109 a110 a111 a112 a113 a114 a115 a116 a117 a118 a119 a120 a121 a122 a123 a124 a125 a126 a127 a128 a129 a130 a131 a132 a133 a134 a135 a136 a137 a138 a139 a140 a141 a142 a143 a144 a145 a146 a147 a148 a149 a150 a151 a152 a153 a154 a155 a156 a157 a158 a159 a160 a161 a162 a163 a164 a165 a166 a167 a168 a169 a170 a171 a172 a173 a174 a175 a176 a177 a178 a179 a180 a181 a182 a183 a184 a185 a186 a187 a188 a189 a190 a191 a192 a193 a194 a195 a196 a197 a198 a199 a200 a201 a202 a203 a204 a205 a206 a207 a208 a209 a210 a211 a212 a213 a214 a215 a216 a217 a218 a219 a220 a221 a222 a223 a224 a225 a226 a227 a228 a229 a230 a231 a232 a233 a234 a235 a236 a237 a238 a239 a240 a241 a242 a243 a244 a245 a246 a247 a248 a249 a250 a251 a252 a253 a254 a255 a256 a257 a258 a259 a260 a261 a262 a263 a264 a265 a266 a267 a268 a269 a270 a271 a272 a273 a274 a275 a276 a277 a278 a279 a280 a281 a282 a283 a284 a285 a286 a287 a288 a289 a290 a291 a292 a293 a294 a295 a296 a297 a298 a299 a300 a301 a302 a303 a304 a305 a306 a307 a308 a309 a310 a311 a312 a313 a314 a315 a316 a317 a318 a319 a320 a321 a322 a323 a324 a325 a326 a327 a328 a329 a330 a331 a332 a333 a334 a335 a336 a337 a338 a339 a340 a341 a342 a343 a344 a345 a346 a347 a348 a349 a350 a351 a352 a353 a354 a355 a356 a357 a358 a359 a360 a361 a362 a363 a364 a365 a366 a367 a368 a369 a370 a371 a372 a373 a374 a375 a376 a377 a378 a379 a380 a381 a382 a383 a384 a385 a386 a387 a388 a389 a390 a391 a392 a393 a394 a395 a396 a397 a398 a399 a400 a401 a402 a403 a404 a405 a406 a407 a408 a409 a410 a411 a412 a413 a414 a415 a416 a417 a418 a419 a420 a421 a422 a423 a424 a425 a426 a427 a428 a429 a430 a431 a432 a433 a434 a435 a436 a437 a438 a439 a440 a441 a442 a443 a444 a445 a446 : Value}
    (hp : Pre U L0 w0 g q cs i T b cu A n c s wb) (hk : k = i + 1) (hN : U.length = N) (htx : Tx w0 tb tof U)
    (h0 : 0 ≤ cu) (h1 : cu ≤ 126) (h2 : cu ≠ 92)
    (hend : ∀ (z15 z16 z17 z18 z19 z20 z21 z22 z23 z87 z88 z89 z90 z91 z92 z93 z94 z95 z96 z97 z98 z99 z100 z101 z102 z103 z104 z105 z106 z107 z108 z109 z110 z111 z112 z113 z114 z115 z116 z117 z118 z119 z120 z121 z122 z123 z124 z125 z126 z127 z128 z129 z130 z131 z132 z133 z134 z135 z136 z137 z138 z139 z140 z141 z142 z143 z144 z145 z146 z147 z148 z149 z150 z151 z152 z153 z154 z155 z156 z157 z158 z159 z160 z161 z162 z163 z164 z165 z166 z167 z168 z169 z170 z171 z172 z173 z174 z175 z176 z177 z178 z179 z180 z181 z182 z183 z184 z185 z186 z187 z188 z189 z190 z191 z192 z193 z194 z195 z196 z197 z198 z199 z200 z201 z202 z203 z204 z205 z206 z207 z208 z209 z210 z211 z212 z213 z214 z215 z216 z217 z218 z219 z220 z221 z222 z223 z224 z225 z226 z227 z228 z229 z230 z231 z232 z233 z234 z235 z236 z237 z238 z239 z240 z241 z242 z243 z244 z245 z246 z247 z248 z249 z250 z251 z252 z253 z254 z255 z256 z257 z258 z259 z260 z261 z262 z263 z264 z265 z266 z267 z268 z269 z270 z271 z272 z273 z274 z275 z276 z277 z278 z279 z280 z281 z282 z283 z284 z285 z286 z287 z288 z289 z290 z291 z292 z293 z294 z295 z296 z297 z298 z299 z300 z301 z302 z303 z304 z305 z306 z307 z308 z309 z310 z311 z312 z313 z314 z315 z316 z317 z318 z319 z320 z321 z322 z323 z324 z325 z326 z327 z328 z329 z330 z331 z332 z333 z334 z335 z336 z337 z338 z339 z340 z341 z342 z343 z344 z345 z346 z347 z348 z349 z350 z351 z352 z353 z354 z355 z356 z357 z358 z359 z360 z361 z362 z363 z364 z365 z366 z367 z368 z369 z370 z371 z372 z373 z374 z375 z376 z377 z378 z379 z380 z381 z382 z383 z384 z385 z386 z387 z388 z389 z390 z391 z392 z393 z394 z395 z396 z397 z398 z399 z400 z401 z402 z403 z404 z405 z406 z407 z408 z409 z410 z411 z412 z413 z414 z415 z416 z417 z418 z419 z420 z421 z422 z423 z424 z425 z426 z427 z428 z429 z430 z431 z432 z433 z434 z435 z436 z437 z438 z439 z440 z441 z442 t9 t10 t12 : Value) (W : World), Rel (i + 1) U L0 w0 g q cs t9 t10 t12 W → Q0 Exit.normal ⟨#[.pointer (some ⟨g, 0, none⟩), .slice (some ⟨tb, tof, none⟩) N tc, .int .i32 qt, a3, a4, a5, a6, a7, .slice (some ⟨q, 0, none⟩) 4 4, t9, t10, .int .i64 (N : Int), t12, a13, .int .u16 cu, z15, z16, z17, z18, z19, z20, z21, z22, z23, a24, a25, a26, a27, a28, a29, a30, a31, a32, a33, a34, a35, a36, a37, a38, a39, a40, a41, a42, a43, a44, a45, a46, a47, a48, a49, a50, a51, a52, a53, a54, a55, a56, a57, a58, a59, a60, a61, a62, a63, a64, a65, a66, a67, a68, a69, a70, a71, a72, a73, a74, a75, a76, a77, a78, a79, a80, a81, a82, a83, a84, a85, .int .u16 cu, z87, z88, z89, z90, z91, z92, z93, z94, z95, z96, z97, z98, z99, z100, z101, z102, z103, z104, z105, z106, z107, z108, z109, z110, z111, z112, z113, z114, z115, z116, z117, z118, z119, z120, z121, z122, z123, z124, z125, z126, z127, z128, z129, z130, z131, z132, z133, z134, z135, z136, z137, z138, z139, z140, z141, z142, z143, z144, z145, z146, z147, z148, z149, z150, z151, z152, z153, z154, z155, z156, z157, z158, z159, z160, z161, z162, z163, z164, z165, z166, z167, z168, z169, z170, z171, z172, z173, z174, z175, z176, z177, z178, z179, z180, z181, z182, z183, z184, z185, z186, z187, z188, z189, z190, z191, z192, z193, z194, z195, z196, z197, z198, z199, z200, z201, z202, z203, z204, z205, z206, z207, z208, z209, z210, z211, z212, z213, z214, z215, z216, z217, z218, z219, z220, z221, z222, z223, z224, z225, z226, z227, z228, z229, z230, z231, z232, z233, z234, z235, z236, z237, z238, z239, z240, z241, z242, z243, z244, z245, z246, z247, z248, z249, z250, z251, z252, z253, z254, z255, z256, z257, z258, z259, z260, z261, z262, z263, z264, z265, z266, z267, z268, z269, z270, z271, z272, z273, z274, z275, z276, z277, z278, z279, z280, z281, z282, z283, z284, z285, z286, z287, z288, z289, z290, z291, z292, z293, z294, z295, z296, z297, z298, z299, z300, z301, z302, z303, z304, z305, z306, z307, z308, z309, z310, z311, z312, z313, z314, z315, z316, z317, z318, z319, z320, z321, z322, z323, z324, z325, z326, z327, z328, z329, z330, z331, z332, z333, z334, z335, z336, z337, z338, z339, z340, z341, z342, z343, z344, z345, z346, z347, z348, z349, z350, z351, z352, z353, z354, z355, z356, z357, z358, z359, z360, z361, z362, z363, z364, z365, z366, z367, z368, z369, z370, z371, z372, z373, z374, z375, z376, z377, z378, z379, z380, z381, z382, z383, z384, z385, z386, z387, z388, z389, z390, z391, z392, z393, z394, z395, z396, z397, z398, z399, z400, z401, z402, z403, z404, z405, z406, z407, z408, z409, z410, z411, z412, z413, z414, z415, z416, z417, z418, z419, z420, z421, z422, z423, z424, z425, z426, z427, z428, z429, z430, z431, z432, z433, z434, z435, z436, z437, z438, z439, z440, z441, z442, a443, a444, a445, a446], []⟩ W) :
    Code.wp Tryf.prog pieceD Q0 ⟨#[.pointer (some ⟨g, 0, none⟩), .slice (some ⟨tb, tof, none⟩) N tc, .int .i32 qt, a3, a4, a5, a6, a7, .slice (some ⟨q, 0, none⟩) 4 4, .slice A n c, .int .i64 (k : Int), .int .i64 (N : Int), .int .i64 s, a13, .int .u16 cu, a15, a16, a17, a18, a19, a20, a21, a22, a23, a24, a25, a26, a27, a28, a29, a30, a31, a32, a33, a34, a35, a36, a37, a38, a39, a40, a41, a42, a43, a44, a45, a46, a47, a48, a49, a50, a51, a52, a53, a54, a55, a56, a57, a58, a59, a60, a61, a62, a63, a64, a65, a66, a67, a68, a69, a70, a71, a72, a73, a74, a75, a76, a77, a78, a79, a80, a81, a82, a83, a84, a85, .int .u16 cu, a87, a88, a89, a90, a91, a92, a93, a94, a95, a96, a97, a98, a99, a100, a101, a102, a103, a104, a105, a106, a107, a108, a109, a110, a111, a112, a113, a114, a115, a116, a117, a118, a119, a120, a121, a122, a123, a124, a125, a126, a127, a128, a129, a130, a131, a132, a133, a134, a135, a136, a137, a138, a139, a140, a141, a142, a143, a144, a145, a146, a147, a148, a149, a150, a151, a152, a153, a154, a155, a156, a157, a158, a159, a160, a161, a162, a163, a164, a165, a166, a167, a168, a169, a170, a171, a172, a173, a174, a175, a176, a177, a178, a179, a180, a181, a182, a183, a184, a185, a186, a187, a188, a189, a190, a191, a192, a193, a194, a195, a196, a197, a198, a199, a200, a201, a202, a203, a204, a205, a206, a207, a208, a209, a210, a211, a212, a213, a214, a215, a216, a217, a218, a219, a220, a221, a222, a223, a224, a225, a226, a227, a228, a229, a230, a231, a232, a233, a234, a235, a236, a237, a238, a239, a240, a241, a242, a243, a244, a245, a246, a247, a248, a249, a250, a251, a252, a253, a254, a255, a256, a257, a258, a259, a260, a261, a262, a263, a264, a265, a266, a267, a268, a269, a270, a271, a272, a273, a274, a275, a276, a277, a278, a279, a280, a281, a282, a283, a284, a285, a286, a287, a288, a289, a290, a291, a292, a293, a294, a295, a296, a297, a298, a299, a300, a301, a302, a303, a304, a305, a306, a307, a308, a309, a310, a311, a312, a313, a314, a315, a316, a317, a318, a319, a320, a321, a322, a323, a324, a325, a326, a327, a328, a329, a330, a331, a332, a333, a334, a335, a336, a337, a338, a339, a340, a341, a342, a343, a344, a345, a346, a347, a348, a349, a350, a351, a352, a353, a354, a355, a356, a357, a358, a359, a360, a361, a362, a363, a364, a365, a366, a367, a368, a369, a370, a371, a372, a373, a374, a375, a376, a377, a378, a379, a380, a381, a382, a383, a384, a385, a386, a387, a388, a389, a390, a391, a392, a393, a394, a395, a396, a397, a398, a399, a400, a401, a402, a403, a404, a405, a406, a407, a408, a409, a410, a411, a412, a413, a414, a415, a416, a417, a418, a419, a420, a421, a422, a423, a424, a425, a426, a427, a428, a429, a430, a431, a432, a433, a434, a435, a436, a437, a438, a439, a440, a441, a442, a443, a444, a445, a446], []⟩ wb := by
  have HEND := Lib.hid hend
  have HP := Lib.hid hp
  have HS := Lib.hid hp.sn
  have HK := Lib.hid hk
  clear hend hp hk
  clear htx hN
  conv => arg 2; whnf
  go_wp2_with (at_builtin; refine wp_row wb [cu] rfl _ _ rfl A n c _ rfl HS 1 rfl rfl (by decide) (by decide) ?_)
  intro A1 n1 c1 w1 H1
  have HR : Hid (Rel (i + 1) U L0 w0 g q cs (.slice A1 n1 c1) (.int .i64 (k : Int)) (.int .i64 (s)) w1) := Lib.hid (by
    rw [HK.out]
    exact HP.out.one (.raw cu) (by simp [Tok.valid]; omega) rfl (.inr rfl) (fun e => by cases e) (H1.out (by have := HP.out.len; omega)) rfl (by have := HP.out.lo; omega) (HP.out.hi))
  go_wp2_with fail
  refine HEND.out _ _ _ _ _ _ _ _ _ _ _ _ _ _ _ _ _ _ _ _ _ _ _ _ _ _ _ _ _ _ _ _ _ _ _ _ _ _ _ _ _ _ _ _ _ _ _ _ _ _ _ _ _ _ _ _ _ _ _ _ _ _ _ _ _ _ _ _ _ _ _ _ _ _ _ _ _ _ _ _ _ _ _ _ _ _ _ _ _ _ _ _ _ _ _ _ _ _ _ _ _ _ _ _ _ _ _ _ _ _ _ _ _ _ _ _ _ _ _ _ _ _ _ _ _ _ _ _ _ _ _ _ _ _ _ _ _ _ _ _ _ _ _ _ _ _ _ _ _ _ _ _ _ _ _ _ _ _ _ _ _ _ _ _ _ _ _ _ _ _ _ _ _ _ _ _ _ _ _ _ _ _ _ _ _ _ _ _ _ _ _ _ _ _ _ _ _ _ _ _ _ _ _ _ _ _ _ _ _ _ _ _ _ _ _ _ _ _ _ _ _ _ _ _ _ _ _ _ _ _ _ _ _ _ _ _ _ _ _ _ _ _ _ _ _ _ _ _ _ _ _ _ _ _ _ _ _ _ _ _ _ _ _ _ _ _ _ _ _ _ _ _ _ _ _ _ _ _ _ _ _ _ _ _ _ _ _ _ _ _ _ _ _ _ _ _ _ _ _ _ _ _ _ _ _ _ _ _ _ _ _ _ _ _ _ _ _ _ _ _ _ _ _ _ _ _ _ _ _ _ _ _ _ _ _ _ _ _ _ _ _ _ _ _ _ _ _ _ _ _ _ _ _ _ _ _ _ _ _ _ _ _ _ _ _ _ _ _ _ HR.out
set_option maxRecDepth 1000000 in
set_option maxHeartbeats 32000000 in
theorem dflt3a (w0 wb : World) (g q tb tof N tc k i n c : Nat) (cs : List Value) (U L0 : List Int) (T : List Tok) (b : Bool) (A : Option Addr) (s qt : Int) (cu : Int) (Q0 : Exit → Act → World → Prop) {a3 a4 a5 a6 a7 a13 a15 a16 a17 a18 a19 a20 a21 a22 a23 a24 a25 a26 a27 a28 a29 a30 a31 a32 a33 a34 a35 a36 a37 a38 a39 a40 a41 a42 a43 a44 a45 a46 a47 a48 a49 a50 a51 a52 a53 a54 a55 a56 a57 a58 a59 a60 a61 a62 a63 a64 a65 a66 a67 a68 a69 a70 a71 a72 a73 a74 a75 a76 a77 a78 a79 a80 a81 a82 a83 a84 a85 a87 a88 a89 a90 a91 a92 a93 a94 a95 a96 a97 a98 a99 a100 a101 a102 a103 a104 a105 a106 a107 a108 a109 a110 a111 a112 a113 a114 a115 a116 a117 a118 a119 a120 a121 a122 a123 a124 a125 a126 a127 a128 a129 a130 a131 a132 a133 a134 a135 a136 a137 a138 a139 a140 a141 a142 a143 a144 a145 a146 a147 a148 a149 a150 a151 a152 a153 a154 a155 a156 a157 a158 a159 a160 a161 a162 a163 a164 a165 a166 a167 a168 a169 a170 a171 a172 a173 a174 a175 a176 a177 a178 a179 a180 a181 a182 a183 a184 a185 a186 a187 a188 a189 a190 a191 a192 a193 a194 a195 a196 a197 a198 a199 a200 a201 a202 a203 a204 a205 a206 a207 a208 a209 a210 a211 a212 a213 a214 a215 a216 a217 a218 a219 a220 a221 a222 a223 a224 a225 a226 a227 a228 a229 a230 a231 a232 a233 a234 a235 a236 a237 a238 a239 a240 a241 a242 a243 a244 a245 a246 a247 a248 a249 a250 a251 a252 a253 a254 a255 a256 a257 a258 a259 a260 a261 a262 a263 a264 a265 a266 a267 a268 a269 a270 a271 a272 a273 a274 a275 a276 a277 a278 a279 a280 a281 a282 a283 a284 a285 a286 a287 a288 a289 a290 a291 a292 a293 a294 a295 a296 a297 a298 a299 a300 a301 a302 a303 a304 a305 a306 a307 a308 a309 a310 a311 a312 a313 a314 a315 a316 a317 a318 a319 a320 a321 a322 a323 a324 a325 a326 a327 a328 a329 a330 a331 a332 a333 a334 a335 a336 a337 a338 a339 a340 a341 a342 a343 a344 a345 a346 a347 a348 a349 a350 a351 a352 a353 a354 a355 a356 a357 a358 a359 a360 a361 a362 a363 a364 a365 a366 a367 a368 a369 a370 a371 a372 a373 a374 a375 a376 a377 a378 a379 a380 a381 a382 a383 a384 a385 a386 a387 a388 a389 a390 a391 a392 a393 a394 a395 a396 a397 a398 a399 a400 a401 a402 a403 a404 a405 a406 a407 a408 a409 a410 a411 a412 a413 a414 a415 a416 a417 a418 a419 a420 a421 a422 a423 a424 a425 a426 a427 a428 a429 a430 a431 a432 a433 a434 a435 a436 a437 a438 a439 a440 a441 a442 a443 a444 a445 a446 : Value}
    (hp : Pre U L0 w0 g q cs i T b cu A n c s wb) (hk : k = i + 1) (hN : U.length = N) (htx : Tx w0 tb tof U)
    (h0 : 55296 ≤ cu) (h1 : cu ≤ 56319) (hN2 : N ≤ k)
    (hend : ∀ (z15 z16 z17 z18 z19 z20 z21 z22 z23 z87 z88 z89 z90 z91 z92 z93 z94 z95 z96 z97 z98 z99 z100 z101 z102 z103 z104 z105 z106 z107 z108 z109 z110 z111 z112 z113 z114 z115 z116 z117 z118 z119 z120 z121 z122 z123 z124 z125 z126 z127 z128 z129 z130 z131 z132 z133 z134 z135 z136 z137 z138 z139 z140 z141 z142 z143 z144 z145 z146 z147 z148 z149 z150 z151 z152 z153 z154 z155 z156 z157 z158 z159 z160 z161 z162 z163 z164 z165 z166 z167 z168 z169 z170 z171 z172 z173 z174 z175 z176 z177 z178 z179 z180 z181 z182 z183 z184 z185 z186 z187 z188 z189 z190 z191 z192 z193 z194 z195 z196 z197 z198 z199 z200 z201 z202 z203 z204 z205 z206 z207 z208 z209 z210 z211 z212 z213 z214 z215 z216 z217 z218 z219 z220 z221 z222 z223 z224 z225 z226 z227 z228 z229 z230 z231 z232 z233 z234 z235 z236 z237 z238 z239 z240 z241 z242 z243 z244 z245 z246 z247 z248 z249 z250 z251 z252 z253 z254 z255 z256 z257 z258 z259 z260 z261 z262 z263 z264 z265 z266 z267 z268 z269 z270 z271 z272 z273 z274 z275 z276 z277 z278 z279 z280 z281 z282 z283 z284 z285 z286 z287 z288 z289 z290 z291 z292 z293 z294 z295 z296 z297 z298 z299 z300 z301 z302 z303 z304 z305 z306 z307 z308 z309 z310 z311 z312 z313 z314 z315 z316 z317 z318 z319 z320 z321 z322 z323 z324 z325 z326 z327 z328 z329 z330 z331 z332 z333 z334 z335 z336 z337 z338 z339 z340 z341 z342 z343 z344 z345 z346 z347 z348 z349 z350 z351 z352 z353 z354 z355 z356 z357 z358 z359 z360 z361 z362 z363 z364 z365 z366 z367 z368 z369 z370 z371 z372 z373 z374 z375 z376 z377 z378 z379 z380 z381 z382 z383 z384 z385 z386 z387 z388 z389 z390 z391 z392 z393 z394 z395 z396 z397 z398 z399 z400 z401 z402 z403 z404 z405 z406 z407 z408 z409 z410 z411 z412 z413 z414 z415 z416 z417 z418 z419 z420 z421 z422 z423 z424 z425 z426 z427 z428 z429 z430 z431 z432 z433 z434 z435 z436 z437 z438 z439 z440 z441 z442 t9 t10 t12 : Value) (W : World), Rel (i + 1) U L0 w0 g q cs t9 t10 t12 W → Q0 Exit.normal ⟨#[.pointer (some ⟨g, 0, none⟩), .slice (some ⟨tb, tof, none⟩) N tc, .int .i32 qt, a3, a4, a5, a6, a7, .slice (some ⟨q, 0, none⟩) 4 4, t9, t10, .int .i64 (N : Int), t12, a13, .int .u16 cu, z15, z16, z17, z18, z19, z20, z21, z22, z23, a24, a25, a26, a27, a28, a29, a30, a31, a32, a33, a34, a35, a36, a37, a38, a39, a40, a41, a42, a43, a44, a45, a46, a47, a48, a49, a50, a51, a52, a53, a54, a55, a56, a57, a58, a59, a60, a61, a62, a63, a64, a65, a66, a67, a68, a69, a70, a71, a72, a73, a74, a75, a76, a77, a78, a79, a80, a81, a82, a83, a84, a85, .int .u16 cu, z87, z88, z89, z90, z91, z92, z93, z94, z95, z96, z97, z98, z99, z100, z101, z102, z103, z104, z105, z106, z107, z108, z109, z110, z111, z112, z113, z114, z115, z116, z117, z118, z119, z120, z121, z122, z123, z124, z125, z126, z127, z128, z129, z130, z131, z132, z133, z134, z135, z136, z137, z138, z139, z140, z141, z142, z143, z144, z145, z146, z147, z148, z149, z150, z151, z152, z153, z154, z155, z156, z157, z158, z159, z160, z161, z162, z163, z164, z165, z166, z167, z168, z169, z170, z171, z172, z173, z174, z175, z176, z177, z178, z179, z180, z181, z182, z183, z184, z185, z186, z187, z188, z189, z190, z191, z192, z193, z194, z195, z196, z197, z198, z199, z200, z201, z202, z203, z204, z205, z206, z207, z208, z209, z210, z211, z212, z213, z214, z215, z216, z217, z218, z219, z220, z221, z222, z223, z224, z225, z226, z227, z228, z229, z230, z231, z232, z233, z234, z235, z236, z237, z238, z239, z240, z241, z242, z243, z244, z245, z246, z247, z248, z249, z250, z251, z252, z253, z254, z255, z256, z257, z258, z259, z260, z261, z262, z263, z264, z265, z266, z267, z268, z269, z270, z271, z272, z273, z274, z275, z276, z277, z278, z279, z280, z281, z282, z283, z284, z285, z286, z287, z288, z289, z290, z291, z292, z293, z294, z295, z296, z297, z298, z299, z300, z301, z302, z303, z304, z305, z306, z307, z308, z309, z310, z311, z312, z313, z314, z315, z316, z317, z318, z319, z320, z321, z322, z323, z324, z325, z326, z327, z328, z329, z330, z331, z332, z333, z334, z335, z336, z337, z338, z339, z340, z341, z342, z343, z344, z345, z346, z347, z348, z349, z350, z351, z352, z353, z354, z355, z356, z357, z358, z359, z360, z361, z362, z363, z364, z365, z366, z367, z368, z369, z370, z371, z372, z373, z374, z375, z376, z377, z378, z379, z380, z381, z382, z383, z384, z385, z386, z387, z388, z389, z390, z391, z392, z393, z394, z395, z396, z397, z398, z399, z400, z401, z402, z403, z404, z405, z406, z407, z408, z409, z410, z411, z412, z413, z414, z415, z416, z417, z418, z419, z420, z421, z422, z423, z424, z425, z426, z427, z428, z429, z430, z431, z432, z433, z434, z435, z436, z437, z438, z439, z440, z441, z442, a443, a444, a445, a446], []⟩ W)
    (hpan : ∀ c (a : Act) (k : Nat) (v : Value) W, Q0 (Exit.panic c) (a.put (some k) v) W → Q0 (Exit.panic c) a W) :
    Code.wp Tryf.prog pieceD Q0 ⟨#[.pointer (some ⟨g, 0, none⟩), .slice (some ⟨tb, tof, none⟩) N tc, .int .i32 qt, a3, a4, a5, a6, a7, .slice (some ⟨q, 0, none⟩) 4 4, .slice A n c, .int .i64 (k : Int), .int .i64 (N : Int), .int .i64 s, a13, .int .u16 cu, a15, a16, a17, a18, a19, a20, a21, a22, a23, a24, a25, a26, a27, a28, a29, a30, a31, a32, a33, a34, a35, a36, a37, a38, a39, a40, a41, a42, a43, a44, a45, a46, a47, a48, a49, a50, a51, a52, a53, a54, a55, a56, a57, a58, a59, a60, a61, a62, a63, a64, a65, a66, a67, a68, a69, a70, a71, a72, a73, a74, a75, a76, a77, a78, a79, a80, a81, a82, a83, a84, a85, .int .u16 cu, a87, a88, a89, a90, a91, a92, a93, a94, a95, a96, a97, a98, a99, a100, a101, a102, a103, a104, a105, a106, a107, a108, a109, a110, a111, a112, a113, a114, a115, a116, a117, a118, a119, a120, a121, a122, a123, a124, a125, a126, a127, a128, a129, a130, a131, a132, a133, a134, a135, a136, a137, a138, a139, a140, a141, a142, a143, a144, a145, a146, a147, a148, a149, a150, a151, a152, a153, a154, a155, a156, a157, a158, a159, a160, a161, a162, a163, a164, a165, a166, a167, a168, a169, a170, a171, a172, a173, a174, a175, a176, a177, a178, a179, a180, a181, a182, a183, a184, a185, a186, a187, a188, a189, a190, a191, a192, a193, a194, a195, a196, a197, a198, a199, a200, a201, a202, a203, a204, a205, a206, a207, a208, a209, a210, a211, a212, a213, a214, a215, a216, a217, a218, a219, a220, a221, a222, a223, a224, a225, a226, a227, a228, a229, a230, a231, a232, a233, a234, a235, a236, a237, a238, a239, a240, a241, a242, a243, a244, a245, a246, a247, a248, a249, a250, a251, a252, a253, a254, a255, a256, a257, a258, a259, a260, a261, a262, a263, a264, a265, a266, a267, a268, a269, a270, a271, a272, a273, a274, a275, a276, a277, a278, a279, a280, a281, a282, a283, a284, a285, a286, a287, a288, a289, a290, a291, a292, a293, a294, a295, a296, a297, a298, a299, a300, a301, a302, a303, a304, a305, a306, a307, a308, a309, a310, a311, a312, a313, a314, a315, a316, a317, a318, a319, a320, a321, a322, a323, a324, a325, a326, a327, a328, a329, a330, a331, a332, a333, a334, a335, a336, a337, a338, a339, a340, a341, a342, a343, a344, a345, a346, a347, a348, a349, a350, a351, a352, a353, a354, a355, a356, a357, a358, a359, a360, a361, a362, a363, a364, a365, a366, a367, a368, a369, a370, a371, a372, a373, a374, a375, a376, a377, a378, a379, a380, a381, a382, a383, a384, a385, a386, a387, a388, a389, a390, a391, a392, a393, a394, a395, a396, a397, a398, a399, a400, a401, a402, a403, a404, a405, a406, a407, a408, a409, a410, a411, a412, a413, a414, a415, a416, a417, a418, a419, a420, a421, a422, a423, a424, a425, a426, a427, a428, a429, a430, a431, a432, a433, a434, a435, a436, a437, a438, a439, a440, a441, a442, a443, a444, a445, a446], []⟩ wb := by
  have HEND := Lib.hid hend
  have HQ := Lib.hid hpan
  have HP := Lib.hid hp
  have HS := Lib.hid hp.sn
  have HK := Lib.hid hk
  clear hpan
  clear hend hp hk
  clear htx hN
  have i1 : ¬ (k : Int) < (N : Int) := by omega
  have X1 : ∀ W, (Instr.index 9 (.string ⟨#[48, 49, 50, 51, 52, 53, 54, 55, 56, 57, 65, 66, 67, 68, 69, 70]⟩) (.int .u16 (cu / 4096))).run Tryf.prog W = .ok (.int .u8 (hexd (cu / 4096))) W := fun W => hexRun _ (by omega) (by omega) W
  obtain ⟨v2, V2, B2⟩ : ∃ v, v = cu / 256 % 16 ∧ bits .and .u16 (cu / 256) 15 = v := ⟨_, rfl, u16and15 _ (by omega) (by omega)⟩
  obtain ⟨v3, V3, B3⟩ : ∃ v, v = cu / 16 % 16 ∧ bits .and .u16 (cu / 16) 15 = v := ⟨_, rfl, u16and15 _ (by omega) (by omega)⟩
  obtain ⟨v4, V4, B4⟩ : ∃ v, v = cu % 16 ∧ bits .and .u16 cu 15 = v := ⟨_, rfl, u16and15 _ (by omega) (by omega)⟩
  have X2 : ∀ W, (Instr.index 9 (.string ⟨#[48, 49, 50, 51, 52, 53, 54, 55, 56, 57, 65, 66, 67, 68, 69, 70]⟩) (.int .u16 v2)).run Tryf.prog W = .ok (.int .u8 (hexd v2)) W := fun W => hexRun _ (by omega) (by omega) W
  have HV2 := Lib.hid V2
  have X3 : ∀ W, (Instr.index 9 (.string ⟨#[48, 49, 50, 51, 52, 53, 54, 55, 56, 57, 65, 66, 67, 68, 69, 70]⟩) (.int .u16 v3)).run Tryf.prog W = .ok (.int .u8 (hexd v3)) W := fun W => hexRun _ (by omega) (by omega) W
  have HV3 := Lib.hid V3
  have X4 : ∀ W, (Instr.index 9 (.string ⟨#[48, 49, 50, 51, 52, 53, 54, 55, 56, 57, 65, 66, 67, 68, 69, 70]⟩) (.int .u16 v4)).run Tryf.prog W = .ok (.int .u8 (hexd v4)) W := fun W => hexRun _ (by omega) (by omega) W
  have HV4 := Lib.hid V4
  clear V2 V3 V4
  conv => arg 2; whnf
  go_upto_region 34 with fail
  refine wp_region_held_drew (S := fun _ => True) (by kernel_rfl) trivial (fun _ => ?_)
  refine takeY 0 (some 190) (.slice A n c) rfl rfl (by kernel_rfl) (by kernel_rfl) (by kernel_rfl) (fun c a w h => HQ.out c a _ _ w h) (by kernel_rfl) ?_ trivial ?_
  · intro W _
    go_simp
  simp only [Act.put, List.setIfInBounds_toArray, List.set_cons_zero, List.set_cons_succ]
  refine takeY 1 (some 191) (.int .u16 cu) rfl rfl (by kernel_rfl) (by kernel_rfl) (by kernel_rfl) (fun c a w h => HQ.out c a _ _ w h) (by kernel_rfl) ?_ trivial ?_
  · intro W _
    go_simp
  simp only [Act.put, List.setIfInBounds_toArray, List.set_cons_zero, List.set_cons_succ]
  refine takeY 2 (some 192) (.int .u16 (cu / 4096)) rfl rfl (by kernel_rfl) (by kernel_rfl) (by kernel_rfl) (fun c a w h => HQ.out c a _ _ w h) (by kernel_rfl) ?_ trivial ?_
  · intro W _
    go_simp
  simp only [Act.put, List.setIfInBounds_toArray, List.set_cons_zero, List.set_cons_succ]
  refine takeY 3 (some 193) (.int .u8 (hexd (cu / 4096))) rfl rfl (by kernel_rfl) (by kernel_rfl) (by kernel_rfl) (fun c a w h => HQ.out c a _ _ w h) (by kernel_rfl) ?_ trivial ?_
  · intro W _
    go_simp
  simp only [Act.put, List.setIfInBounds_toArray, List.set_cons_zero, List.set_cons_succ]
  refine takeY 4 (some 194) (.int .u16 cu) rfl rfl (by kernel_rfl) (by kernel_rfl) (by kernel_rfl) (fun c a w h => HQ.out c a _ _ w h) (by kernel_rfl) ?_ trivial ?_
  · intro W _
    go_simp
  simp only [Act.put, List.setIfInBounds_toArray, List.set_cons_zero, List.set_cons_succ]
  refine takeY 5 (some 195) (.int .u16 (cu / 256)) rfl rfl (by kernel_rfl) (by kernel_rfl) (by kernel_rfl) (fun c a w h => HQ.out c a _ _ w h) (by kernel_rfl) ?_ trivial ?_
  · intro W _
    go_simp
  simp only [Act.put, List.setIfInBounds_toArray, List.set_cons_zero, List.set_cons_succ]
  refine takeY 6 (some 196) (.int .u16 v2) rfl rfl (by kernel_rfl) (by kernel_rfl) (by kernel_rfl) (fun c a w h => HQ.out c a _ _ w h) (by kernel_rfl) ?_ trivial ?_
  · intro W _
    go_simp
  simp only [Act.put, List.setIfInBounds_toArray, List.set_cons_zero, List.set_cons_succ]
  refine takeY 7 (some 197) (.int .u8 (hexd v2)) rfl rfl (by kernel_rfl) (by kernel_rfl) (by kernel_rfl) (fun c a w h => HQ.out c a _ _ w h) (by kernel_rfl) ?_ trivial ?_
  · intro W _
    go_simp
  simp only [Act.put, List.setIfInBounds_toArray, List.set_cons_zero, List.set_cons_succ]
  refine takeY 8 (some 198) (.int .u16 cu) rfl rfl (by kernel_rfl) (by kernel_rfl) (by kernel_rfl) (fun c a w h => HQ.out c a _ _ w h) (by kernel_rfl) ?_ trivial ?_
  · intro W _
    go_simp
  simp only [Act.put, List.setIfInBounds_toArray, List.set_cons_zero, List.set_cons_succ]
  refine takeY 9 (some 199) (.int .u16 (cu / 16)) rfl rfl (by kernel_rfl) (by kernel_rfl) (by kernel_rfl) (fun c a w h => HQ.out c a _ _ w h) (by kernel_rfl) ?_ trivial ?_
  · intro W _
    go_simp
  simp only [Act.put, List.setIfInBounds_toArray, List.set_cons_zero, List.set_cons_succ]
  refine takeY 10 (some 200) (.int .u16 v3) rfl rfl (by kernel_rfl) (by kernel_rfl) (by kernel_rfl) (fun c a w h => HQ.out c a _ _ w h) (by kernel_rfl) ?_ trivial ?_
  · intro W _
    go_simp
  simp only [Act.put, List.setIfInBounds_toArray, List.set_cons_zero, List.set_cons_succ]
  refine takeY 11 (some 201) (.int .u8 (hexd v3)) rfl rfl (by kernel_rfl) (by kernel_rfl) (by kernel_rfl) (fun c a w h => HQ.out c a _ _ w h) (by kernel_rfl) ?_ trivial ?_
  · intro W _
    go_simp
  simp only [Act.put, List.setIfInBounds_toArray, List.set_cons_zero, List.set_cons_succ]
  refine takeY 12 (some 202) (.int .u16 cu) rfl rfl (by kernel_rfl) (by kernel_rfl) (by kernel_rfl) (fun c a w h => HQ.out c a _ _ w h) (by kernel_rfl) ?_ trivial ?_
  · intro W _
    go_simp
  simp only [Act.put, List.setIfInBounds_toArray, List.set_cons_zero, List.set_cons_succ]
  refine takeY 13 (some 203) (.int .u16 v4) rfl rfl (by kernel_rfl) (by kernel_rfl) (by kernel_rfl) (fun c a w h => HQ.out c a _ _ w h) (by kernel_rfl) ?_ trivial ?_
  · intro W _
    go_simp
  simp only [Act.put, List.setIfInBounds_toArray, List.set_cons_zero, List.set_cons_succ]
  refine takeY 14 (some 204) (.int .u8 (hexd v4)) rfl rfl (by kernel_rfl) (by kernel_rfl) (by kernel_rfl) (fun c a w h => HQ.out c a _ _ w h) (by kernel_rfl) ?_ trivial ?_
  · intro W _
    go_simp
  simp only [Act.put, List.setIfInBounds_toArray, List.set_cons_zero, List.set_cons_succ]
  refine wpAnyH_ready (rs := [15]) (by kernel_rfl) (by simp) ?_
  refine AllReadyH.cons rfl (fun K hK => ?_) AllReadyH.nil
  go_simp
  refine hK.out _ _ trivial (fun _ => ?_)
  clear hK K
  have HSD := Lib.hid HS.out.drew
  refine wpAnyH_ready (rs := [16]) (by kernel_rfl) (by simp) ?_
  refine AllReadyH.cons rfl (fun K hK => ?_) AllReadyH.nil
  refine step_row wb.drew [92, 117, hexd (cu / 4096), hexd v2, hexd v3, hexd v4] 206 (by rfl) (by rfl) _ _ (by rfl) A n c _ (by rfl) HSD 6 (by rfl) (by rfl) (by decide) (by decide) ?_
  intro A1 n1 c1 w1 H1
  refine hK.out _ _ trivial (fun _ => ?_)
  clear hK K
  simp only [Act.put, List.setIfInBounds_toArray, List.set_cons_zero, List.set_cons_succ]
  refine takeY 17 (some 9) (.slice A1 n1 c1) rfl rfl (by kernel_rfl) (by kernel_rfl) (by kernel_rfl) (fun c a w h => HQ.out c a _ _ w h) (by kernel_rfl) ?_ trivial ?_
  · intro W _
    go_simp
  simp only [Act.put, List.setIfInBounds_toArray, List.set_cons_zero, List.set_cons_succ]
  refine wpAnyH_done (by kernel_rfl) ?_ _
  have HR : Hid (Rel (i + 1) U L0 w0 g q cs (.slice A1 n1 c1) (.int .i64 (k : Int)) (.int .i64 (s)) w1) := Lib.hid (by
    rw [HK.out]
    exact HP.out.one (.hx4 cu) (by simp [Tok.valid]; omega) rfl (.inl trivial) (fun e => by cases e) (H1.out (by have := HP.out.len; omega)) (by rw [HV2.out, HV3.out, HV4.out]; rfl) (by have := HP.out.lo; omega) (HP.out.hi))
  go_wp2_with fail
  refine HEND.out _ _ _ _ _ _ _ _ _ _ _ _ _ _ _ _ _ _ _ _ _ _ _ _ _ _ _ _ _ _ _ _ _ _ _ _ _ _ _ _ _ _ _ _ _ _ _ _ _ _ _ _ _ _ _ _ _ _ _ _ _ _ _ _ _ _ _ _ _ _ _ _ _ _ _ _ _ _ _ _ _ _ _ _ _ _ _ _ _ _ _ _ _ _ _ _ _ _ _ _ _ _ _ _ _ _ _ _ _ _ _ _ _ _ _ _ _ _ _ _ _ _ _ _ _ _ _ _ _ _ _ _ _ _ _ _ _ _ _ _ _ _ _ _ _ _ _ _ _ _ _ _ _ _ _ _ _ _ _ _ _ _ _ _ _ _ _ _ _ _ _ _ _ _ _ _ _ _ _ _ _ _ _ _ _ _ _ _ _ _ _ _ _ _ _ _ _ _ _ _ _ _ _ _ _ _ _ _ _ _ _ _ _ _ _ _ _ _ _ _ _ _ _ _ _ _ _ _ _ _ _ _ _ _ _ _ _ _ _ _ _ _ _ _ _ _ _ _ _ _ _ _ _ _ _ _ _ _ _ _ _ _ _ _ _ _ _ _ _ _ _ _ _ _ _ _ _ _ _ _ _ _ _ _ _ _ _ _ _ _ _ _ _ _ _ _ _ _ _ _ _ _ _ _ _ _ _ _ _ _ _ _ _ _ _ _ _ _ _ _ _ _ _ _ _ _ _ _ _ _ _ _ _ _ _ _ _ _ _ _ _ _ _ _ _ _ _ _ _ _ _ _ _ _ _ _ _ _ _ _ _ _ _ _ _ _ _ _ _ HR.out
set_option maxRecDepth 1000000 in
set_option maxHeartbeats 32000000 in
theorem dflt3b (w0 wb : World) (g q tb tof N tc k i n c : Nat) (cs : List Value) (U L0 : List Int) (T : List Tok) (b : Bool) (A : Option Addr) (s qt : Int) (cu : Int) (d : Int) (Q0 : Exit → Act → World → Prop) {a3 a4 a5 a6 a7 a13 a15 a16 a17 a18 a19 a20 a21 a22 a23 a24 a25 a26 a27 a28 a29 a30 a31 a32 a33 a34 a35 a36 a37 a38 a39 a40 a41 a42 a43 a44 a45 a46 a47 a48 a49 a50 a51 a52 a53 a54 a55 a56 a57 a58 a59 a60 a61 a62 a63 a64 a65 a66 a67 a68 a69 a70 a71 a72 a73 a74 a75 a76 a77 a78 a79 a80 a81 a82 a83 a84 a85 a87 a88 a89 a90 a91 a92 a93 a94 a95 a96 a97 a98 a99 a100 a101 a102 a103 a104 a105 a106 a107 a108 a109 a110 a111 a112 a113 a114 a115 a116 a117 a118 a119 a120 a121 a122 a123 a124 a125 a126 a127 a128 a129 a130 a131 a132 a133 a134 a135 a136 a137 a138 a139 a140 a141 a142 a143 a144 a145 a146 a147 a148 a149 a150 a151 a152 a153 a154 a155 a156 a157 a158 a159 a160 a161 a162 a163 a164 a165 a166 a167 a168 a169 a170 a171 a172 a173 a174 a175 a176 a177 a178 a179 a180 a181 a182 a183 a184 a185 a186 a187 a188 a189 a190 a191 a192 a193 a194 a195 a196 a197 a198 a199 a200 a201 a202 a203 a204 a205 a206 a207 a208 a209 a210 a211 a212 a213 a214 a215 a216 a217 a218 a219 a220 a221 a222 a223 a224 a225 a226 a227 a228 a229 a230 a231 a232 a233 a234 a235 a236 a237 a238 a239 a240 a241 a242 a243 a244 a245 a246 a247 a248 a249 a250 a251 a252 a253 a254 a255 a256 a257 a258 a259 a260 a261 a262 a263 a264 a265 a266 a267 a268 a269 a270 a271 a272 a273 a274 a275 a276 a277 a278 a279 a280 a281 a282 a283 a284 a285 a286 a287 a288 a289 a290 a291 a292 a293 a294 a295 a296 a297 a298 a299 a300 a301 a302 a303 a304 a305 a306 a307 a308 a309 a310 a311 a312 a313 a314 a315 a316 a317 a318 a319 a320 a321 a322 a323 a324 a325 a326 a327 a328 a329 a330 a331 a332 a333 a334 a335 a336 a337 a338 a339 a340 a341 a342 a343 a344 a345 a346 a347 a348 a349 a350 a351 a352 a353 a354 a355 a356 a357 a358 a359 a360 a361 a362 a363 a364 a365 a366 a367 a368 a369 a370 a371 a372 a373 a374 a375 a376 a377 a378 a379 a380 a381 a382 a383 a384 a385 a386 a387 a388 a389 a390 a391 a392 a393 a394 a395 a396 a397 a398 a399 a400 a401 a402 a403 a404 a405 a406 a407 a408 a409 a410 a411 a412 a413 a414 a415 a416 a417 a418 a419 a420 a421 a422 a423 a424 a425 a426 a427 a428 a429 a430 a431 a432 a433 a434 a435 a436 a437 a438 a439 a440 a441 a442 a443 a444 a445 a446 : Value}
    (hp : Pre U L0 w0 g q cs i T b cu A n c s wb) (hk : k = i + 1) (hN : U.length = N) (htx : Tx w0 tb tof U)
    (h0 : 55296 ≤ cu) (h1 : cu ≤ 56319) (hd : U[k]? = some d) (h2 : d < 56320)
    (hend : ∀ (z15 z16 z17 z18 z19 z20 z21 z22 z23 z87 z88 z89 z90 z91 z92 z93 z94 z95 z96 z97 z98 z99 z100 z101 z102 z103 z104 z105 z106 z107 z108 z109 z110 z111 z112 z113 z114 z115 z116 z117 z118 z119 z120 z121 z122 z123 z124 z125 z126 z127 z128 z129 z130 z131 z132 z133 z134 z135 z136 z137 z138 z139 z140 z141 z142 z143 z144 z145 z146 z147 z148 z149 z150 z151 z152 z153 z154 z155 z156 z157 z158 z159 z160 z161 z162 z163 z164 z165 z166 z167 z168 z169 z170 z171 z172 z173 z174 z175 z176 z177 z178 z179 z180 z181 z182 z183 z184 z185 z186 z187 z188 z189 z190 z191 z192 z193 z194 z195 z196 z197 z198 z199 z200 z201 z202 z203 z204 z205 z206 z207 z208 z209 z210 z211 z212 z213 z214 z215 z216 z217 z218 z219 z220 z221 z222 z223 z224 z225 z226 z227 z228 z229 z230 z231 z232 z233 z234 z235 z236 z237 z238 z239 z240 z241 z242 z243 z244 z245 z246 z247 z248 z249 z250 z251 z252 z253 z254 z255 z256 z257 z258 z259 z260 z261 z262 z263 z264 z265 z266 z267 z268 z269 z270 z271 z272 z273 z274 z275 z276 z277 z278 z279 z280 z281 z282 z283 z284 z285 z286 z287 z288 z289 z290 z291 z292 z293 z294 z295 z296 z297 z298 z299 z300 z301 z302 z303 z304 z305 z306 z307 z308 z309 z310 z311 z312 z313 z314 z315 z316 z317 z318 z319 z320 z321 z322 z323 z324 z325 z326 z327 z328 z329 z330 z331 z332 z333 z334 z335 z336 z337 z338 z339 z340 z341 z342 z343 z344 z345 z346 z347 z348 z349 z350 z351 z352 z353 z354 z355 z356 z357 z358 z359 z360 z361 z362 z363 z364 z365 z366 z367 z368 z369 z370 z371 z372 z373 z374 z375 z376 z377 z378 z379 z380 z381 z382 z383 z384 z385 z386 z387 z388 z389 z390 z391 z392 z393 z394 z395 z396 z397 z398 z399 z400 z401 z402 z403 z404 z405 z406 z407 z408 z409 z410 z411 z412 z413 z414 z415 z416 z417 z418 z419 z420 z421 z422 z423 z424 z425 z426 z427 z428 z429 z430 z431 z432 z433 z434 z435 z436 z437 z438 z439 z440 z441 z442 t9 t10 t12 : Value) (W : World), Rel (i + 1) U L0 w0 g q cs t9 t10 t12 W → Q0 Exit.normal ⟨#[.pointer (some ⟨g, 0, none⟩), .slice (some ⟨tb, tof, none⟩) N tc, .int .i32 qt, a3, a4, a5, a6, a7, .slice (some ⟨q, 0, none⟩) 4 4, t9, t10, .int .i64 (N : Int), t12, a13, .int .u16 cu, z15, z16, z17, z18, z19, z20, z21, z22, z23, a24, a25, a26, a27, a28, a29, a30, a31, a32, a33, a34, a35, a36, a37, a38, a39, a40, a41, a42, a43, a44, a45, a46, a47, a48, a49, a50, a51, a52, a53, a54, a55, a56, a57, a58, a59, a60, a61, a62, a63, a64, a65, a66, a67, a68, a69, a70, a71, a72, a73, a74, a75, a76, a77, a78, a79, a80, a81, a82, a83, a84, a85, .int .u16 cu, z87, z88, z89, z90, z91, z92, z93, z94, z95, z96, z97, z98, z99, z100, z101, z102, z103, z104, z105, z106, z107, z108, z109, z110, z111, z112, z113, z114, z115, z116, z117, z118, z119, z120, z121, z122, z123, z124, z125, z126, z127, z128, z129, z130, z131, z132, z133, z134, z135, z136, z137, z138, z139, z140, z141, z142, z143, z144, z145, z146, z147, z148, z149, z150, z151, z152, z153, z154, z155, z156, z157, z158, z159, z160, z161, z162, z163, z164, z165, z166, z167, z168, z169, z170, z171, z172, z173, z174, z175, z176, z177, z178, z179, z180, z181, z182, z183, z184, z185, z186, z187, z188, z189, z190, z191, z192, z193, z194, z195, z196, z197, z198, z199, z200, z201, z202, z203, z204, z205, z206, z207, z208, z209, z210, z211, z212, z213, z214, z215, z216, z217, z218, z219, z220, z221, z222, z223, z224, z225, z226, z227, z228, z229, z230, z231, z232, z233, z234, z235, z236, z237, z238, z239, z240, z241, z242, z243, z244, z245, z246, z247, z248, z249, z250, z251, z252, z253, z254, z255, z256, z257, z258, z259, z260, z261, z262, z263, z264, z265, z266, z267, z268, z269, z270, z271, z272, z273, z274, z275, z276, z277, z278, z279, z280, z281, z282, z283, z284, z285, z286, z287, z288, z289, z290, z291, z292, z293, z294, z295, z296, z297, z298, z299, z300, z301, z302, z303, z304, z305, z306, z307, z308, z309, z310, z311, z312, z313, z314, z315, z316, z317, z318, z319, z320, z321, z322, z323, z324, z325, z326, z327, z328, z329, z330, z331, z332, z333, z334, z335, z336, z337, z338, z339, z340, z341, z342, z343, z344, z345, z346, z347, z348, z349, z350, z351, z352, z353, z354, z355, z356, z357, z358, z359, z360, z361, z362, z363, z364, z365, z366, z367, z368, z369, z370, z371, z372, z373, z374, z375, z376, z377, z378, z379, z380, z381, z382, z383, z384, z385, z386, z387, z388, z389, z390, z391, z392, z393, z394, z395, z396, z397, z398, z399, z400, z401, z402, z403, z404, z405, z406, z407, z408, z409, z410, z411, z412, z413, z414, z415, z416, z417, z418, z419, z420, z421, z422, z423, z424, z425, z426, z427, z428, z429, z430, z431, z432, z433, z434, z435, z436, z437, z438, z439, z440, z441, z442, a443, a444, a445, a446], []⟩ W)
    (hpan : ∀ c (a : Act) (k : Nat) (v : Value) W, Q0 (Exit.panic c) (a.put (some k) v) W → Q0 (Exit.panic c) a W) :
    Code.wp Tryf.prog pieceD Q0 ⟨#[.pointer (some ⟨g, 0, none⟩), .slice (some ⟨tb, tof, none⟩) N tc, .int .i32 qt, a3, a4, a5, a6, a7, .slice (some ⟨q, 0, none⟩) 4 4, .slice A n c, .int .i64 (k : Int), .int .i64 (N : Int), .int .i64 s, a13, .int .u16 cu, a15, a16, a17, a18, a19, a20, a21, a22, a23, a24, a25, a26, a27, a28, a29, a30, a31, a32, a33, a34, a35, a36, a37, a38, a39, a40, a41, a42, a43, a44, a45, a46, a47, a48, a49, a50, a51, a52, a53, a54, a55, a56, a57, a58, a59, a60, a61, a62, a63, a64, a65, a66, a67, a68, a69, a70, a71, a72, a73, a74, a75, a76, a77, a78, a79, a80, a81, a82, a83, a84, a85, .int .u16 cu, a87, a88, a89, a90, a91, a92, a93, a94, a95, a96, a97, a98, a99, a100, a101, a102, a103, a104, a105, a106, a107, a108, a109, a110, a111, a112, a113, a114, a115, a116, a117, a118, a119, a120, a121, a122, a123, a124, a125, a126, a127, a128, a129, a130, a131, a132, a133, a134, a135, a136, a137, a138, a139, a140, a141, a142, a143, a144, a145, a146, a147, a148, a149, a150, a151, a152, a153, a154, a155, a156, a157, a158, a159, a160, a161, a162, a163, a164, a165, a166, a167, a168, a169, a170, a171, a172, a173, a174, a175, a176, a177, a178, a179, a180, a181, a182, a183, a184, a185, a186, a187, a188, a189, a190, a191, a192, a193, a194, a195, a196, a197, a198, a199, a200, a201, a202, a203, a204, a205, a206, a207, a208, a209, a210, a211, a212, a213, a214, a215, a216, a217, a218, a219, a220, a221, a222, a223, a224, a225, a226, a227, a228, a229, a230, a231, a232, a233, a234, a235, a236, a237, a238, a239, a240, a241, a242, a243, a244, a245, a246, a247, a248, a249, a250, a251, a252, a253, a254, a255, a256, a257, a258, a259, a260, a261, a262, a263, a264, a265, a266, a267, a268, a269, a270, a271, a272, a273, a274, a275, a276, a277, a278, a279, a280, a281, a282, a283, a284, a285, a286, a287, a288, a289, a290, a291, a292, a293, a294, a295, a296, a297, a298, a299, a300, a301, a302, a303, a304, a305, a306, a307, a308, a309, a310, a311, a312, a313, a314, a315, a316, a317, a318, a319, a320, a321, a322, a323, a324, a325, a326, a327, a328, a329, a330, a331, a332, a333, a334, a335, a336, a337, a338, a339, a340, a341, a342, a343, a344, a345, a346, a347, a348, a349, a350, a351, a352, a353, a354, a355, a356, a357, a358, a359, a360, a361, a362, a363, a364, a365, a366, a367, a368, a369, a370, a371, a372, a373, a374, a375, a376, a377, a378, a379, a380, a381, a382, a383, a384, a385, a386, a387, a388, a389, a390, a391, a392, a393, a394, a395, a396, a397, a398, a399, a400, a401, a402, a403, a404, a405, a406, a407, a408, a409, a410, a411, a412, a413, a414, a415, a416, a417, a418, a419, a420, a421, a422, a423, a424, a425, a426, a427, a428, a429, a430, a431, a432, a433, a434, a435, a436, a437, a438, a439, a440, a441, a442, a443, a444, a445, a446], []⟩ wb := by
  have HEND := Lib.hid hend
  have HQ := Lib.hid hpan
  have HP := Lib.hid hp
  have HS := Lib.hid hp.sn
  have HK := Lib.hid hk
  clear hpan
  clear hend hp hk
  obtain ⟨hc, hd0, hd1⟩ := htx.at_ HS.out.2.2.kept hd
  have hkn : k < N := by rw [← hN]; exact (List.getElem?_eq_some_iff.1 hd).1
  have i1 : (k : Int) < (N : Int) := by omega
  have hN3 : (N : Int) ≤ 1048576 := by have := HP.out.hU; omega
  have HD := Lib.hid hd
  clear hkn hd htx hN
  have X1 : ∀ W, (Instr.index 9 (.string ⟨#[48, 49, 50, 51, 52, 53, 54, 55, 56, 57, 65, 66, 67, 68, 69, 70]⟩) (.int .u16 (cu / 4096))).run Tryf.prog W = .ok (.int .u8 (hexd (cu / 4096))) W := fun W => hexRun _ (by omega) (by omega) W
  obtain ⟨v2, V2, B2⟩ : ∃ v, v = cu / 256 % 16 ∧ bits .and .u16 (cu / 256) 15 = v := ⟨_, rfl, u16and15 _ (by omega) (by omega)⟩
  obtain ⟨v3, V3, B3⟩ : ∃ v, v = cu / 16 % 16 ∧ bits .and .u16 (cu / 16) 15 = v := ⟨_, rfl, u16and15 _ (by omega) (by omega)⟩
  obtain ⟨v4, V4, B4⟩ : ∃ v, v = cu % 16 ∧ bits .and .u16 cu 15 = v := ⟨_, rfl, u16and15 _ (by omega) (by omega)⟩
  have X2 : ∀ W, (Instr.index 9 (.string ⟨#[48, 49, 50, 51, 52, 53, 54, 55, 56, 57, 65, 66, 67, 68, 69, 70]⟩) (.int .u16 v2)).run Tryf.prog W = .ok (.int .u8 (hexd v2)) W := fun W => hexRun _ (by omega) (by omega) W
  have HV2 := Lib.hid V2
  have X3 : ∀ W, (Instr.index 9 (.string ⟨#[48, 49, 50, 51, 52, 53, 54, 55, 56, 57, 65, 66, 67, 68, 69, 70]⟩) (.int .u16 v3)).run Tryf.prog W = .ok (.int .u8 (hexd v3)) W := fun W => hexRun _ (by omega) (by omega) W
  have HV3 := Lib.hid V3
  have X4 : ∀ W, (Instr.index 9 (.string ⟨#[48, 49, 50, 51, 52, 53, 54, 55, 56, 57, 65, 66, 67, 68, 69, 70]⟩) (.int .u16 v4)).run Tryf.prog W = .ok (.int .u8 (hexd v4)) W := fun W => hexRun _ (by omega) (by omega) W
  have HV4 := Lib.hid V4
  clear V2 V3 V4
  conv => arg 2; whnf
  go_upto_region 34 with fail
  refine wp_region_held_drew (S := fun _ => True) (by kernel_rfl) trivial (fun _ => ?_)
  refine takeY 0 (some 190) (.slice A n c) rfl rfl (by kernel_rfl) (by kernel_rfl) (by kernel_rfl) (fun c a w h => HQ.out c a _ _ w h) (by kernel_rfl) ?_ trivial ?_
  · intro W _
    go_simp
  simp only [Act.put, List.setIfInBounds_toArray, List.set_cons_zero, List.set_cons_succ]
  refine takeY 1 (some 191) (.int .u16 cu) rfl rfl (by kernel_rfl) (by kernel_rfl) (by kernel_rfl) (fun c a w h => HQ.out c a _ _ w h) (by kernel_rfl) ?_ trivial ?_
  · intro W _
    go_simp
  simp only [Act.put, List.setIfInBounds_toArray, List.set_cons_zero, List.set_cons_succ]
  refine takeY 2 (some 192) (.int .u16 (cu / 4096)) rfl rfl (by kernel_rfl) (by kernel_rfl) (by kernel_rfl) (fun c a w h => HQ.out c a _ _ w h) (by kernel_rfl) ?_ trivial ?_
  · intro W _
    go_simp
  simp only [Act.put, List.setIfInBounds_toArray, List.set_cons_zero, List.set_cons_succ]
  refine takeY 3 (some 193) (.int .u8 (hexd (cu / 4096))) rfl rfl (by kernel_rfl) (by kernel_rfl) (by kernel_rfl) (fun c a w h => HQ.out c a _ _ w h) (by kernel_rfl) ?_ trivial ?_
  · intro W _
    go_simp
  simp only [Act.put, List.setIfInBounds_toArray, List.set_cons_zero, List.set_cons_succ]
  refine takeY 4 (some 194) (.int .u16 cu) rfl rfl (by kernel_rfl) (by kernel_rfl) (by kernel_rfl) (fun c a w h => HQ.out c a _ _ w h) (by kernel_rfl) ?_ trivial ?_
  · intro W _
    go_simp
  simp only [Act.put, List.setIfInBounds_toArray, List.set_cons_zero, List.set_cons_succ]
  refine takeY 5 (some 195) (.int .u16 (cu / 256)) rfl rfl (by kernel_rfl) (by kernel_rfl) (by kernel_rfl) (fun c a w h => HQ.out c a _ _ w h) (by kernel_rfl) ?_ trivial ?_
  · intro W _
    go_simp
  simp only [Act.put, List.setIfInBounds_toArray, List.set_cons_zero, List.set_cons_succ]
  refine takeY 6 (some 196) (.int .u16 v2) rfl rfl (by kernel_rfl) (by kernel_rfl) (by kernel_rfl) (fun c a w h => HQ.out c a _ _ w h) (by kernel_rfl) ?_ trivial ?_
  · intro W _
    go_simp
  simp only [Act.put, List.setIfInBounds_toArray, List.set_cons_zero, List.set_cons_succ]
  refine takeY 7 (some 197) (.int .u8 (hexd v2)) rfl rfl (by kernel_rfl) (by kernel_rfl) (by kernel_rfl) (fun c a w h => HQ.out c a _ _ w h) (by kernel_rfl) ?_ trivial ?_
  · intro W _
    go_simp
  simp only [Act.put, List.setIfInBounds_toArray, List.set_cons_zero, List.set_cons_succ]
  refine takeY 8 (some 198) (.int .u16 cu) rfl rfl (by kernel_rfl) (by kernel_rfl) (by kernel_rfl) (fun c a w h => HQ.out c a _ _ w h) (by kernel_rfl) ?_ trivial ?_
  · intro W _
    go_simp
  simp only [Act.put, List.setIfInBounds_toArray, List.set_cons_zero, List.set_cons_succ]
  refine takeY 9 (some 199) (.int .u16 (cu / 16)) rfl rfl (by kernel_rfl) (by kernel_rfl) (by kernel_rfl) (fun c a w h => HQ.out c a _ _ w h) (by kernel_rfl) ?_ trivial ?_
  · intro W _
    go_simp
  simp only [Act.put, List.setIfInBounds_toArray, List.set_cons_zero, List.set_cons_succ]
  refine takeY 10 (some 200) (.int .u16 v3) rfl rfl (by kernel_rfl) (by kernel_rfl) (by kernel_rfl) (fun c a w h => HQ.out c a _ _ w h) (by kernel_rfl) ?_ trivial ?_
  · intro W _
    go_simp
  simp only [Act.put, List.setIfInBounds_toArray, List.set_cons_zero, List.set_cons_succ]
  refine takeY 11 (some 201) (.int .u8 (hexd v3)) rfl rfl (by kernel_rfl) (by kernel_rfl) (by kernel_rfl) (fun c a w h => HQ.out c a _ _ w h) (by kernel_rfl) ?_ trivial ?_
  · intro W _
    go_simp
  simp only [Act.put, List.setIfInBounds_toArray, List.set_cons_zero, List.set_cons_succ]
  refine takeY 12 (some 202) (.int .u16 cu) rfl rfl (by kernel_rfl) (by kernel_rfl) (by kernel_rfl) (fun c a w h => HQ.out c a _ _ w h) (by kernel_rfl) ?_ trivial ?_
  · intro W _
    go_simp
  simp only [Act.put, List.setIfInBounds_toArray, List.set_cons_zero, List.set_cons_succ]
  refine takeY 13 (some 203) (.int .u16 v4) rfl rfl (by kernel_rfl) (by kernel_rfl) (by kernel_rfl) (fun c a w h => HQ.out c a _ _ w h) (by kernel_rfl) ?_ trivial ?_
  · intro W _
    go_simp
  simp only [Act.put, List.setIfInBounds_toArray, List.set_cons_zero, List.set_cons_succ]
  refine takeY 14 (some 204) (.int .u8 (hexd v4)) rfl rfl (by kernel_rfl) (by kernel_rfl) (by kernel_rfl) (fun c a w h => HQ.out c a _ _ w h) (by kernel_rfl) ?_ trivial ?_
  · intro W _
    go_simp
  simp only [Act.put, List.setIfInBounds_toArray, List.set_cons_zero, List.set_cons_succ]
  refine wpAnyH_ready (rs := [15]) (by kernel_rfl) (by simp) ?_
  refine AllReadyH.cons rfl (fun K hK => ?_) AllReadyH.nil
  go_simp
  refine hK.out _ _ trivial (fun _ => ?_)
  clear hK K
  have HSD := Lib.hid HS.out.drew
  refine wpAnyH_ready (rs := [16]) (by kernel_rfl) (by simp) ?_
  refine AllReadyH.cons rfl (fun K hK => ?_) AllReadyH.nil
  refine step_row wb.drew [92, 117, hexd (cu / 4096), hexd v2, hexd v3, hexd v4] 206 (by rfl) (by rfl) _ _ (by rfl) A n c _ (by rfl) HSD 6 (by rfl) (by rfl) (by decide) (by decide) ?_
  intro A1 n1 c1 w1 H1
  refine hK.out _ _ trivial (fun _ => ?_)
  clear hK K
  simp only [Act.put, List.setIfInBounds_toArray, List.set_cons_zero, List.set_cons_succ]
  refine takeY 17 (some 9) (.slice A1 n1 c1) rfl rfl (by kernel_rfl) (by kernel_rfl) (by kernel_rfl) (fun c a w h => HQ.out c a _ _ w h) (by kernel_rfl) ?_ trivial ?_
  · intro W _
    go_simp
  simp only [Act.put, List.setIfInBounds_toArray, List.set_cons_zero, List.set_cons_succ]
  refine wpAnyH_done (by kernel_rfl) ?_ _
  have HR : Hid (Rel (i + 1) U L0 w0 g q cs (.slice A1 n1 c1) (.int .i64 (k : Int)) (.int .i64 (s)) w1) := Lib.hid (by
    rw [HK.out]
    exact HP.out.one (.hx4 cu) (by simp [Tok.valid]; omega) rfl (.inl trivial) (fun e => by cases e) (H1.out (by have := HP.out.len; omega)) (by rw [HV2.out, HV3.out, HV4.out]; rfl) (by have := HP.out.lo; omega) (HP.out.hi))
  go_wp2_with fail
  refine HEND.out _ _ _ _ _ _ _ _ _ _ _ _ _ _ _ _ _ _ _ _ _ _ _ _ _ _ _ _ _ _ _ _ _ _ _ _ _ _ _ _ _ _ _ _ _ _ _ _ _ _ _ _ _ _ _ _ _ _ _ _ _ _ _ _ _ _ _ _ _ _ _ _ _ _ _ _ _ _ _ _ _ _ _ _ _ _ _ _ _ _ _ _ _ _ _ _ _ _ _ _ _ _ _ _ _ _ _ _ _ _ _ _ _ _ _ _ _ _ _ _ _ _ _ _ _ _ _ _ _ _ _ _ _ _ _ _ _ _ _ _ _ _ _ _ _ _ _ _ _ _ _ _ _ _ _ _ _ _ _ _ _ _ _ _ _ _ _ _ _ _ _ _ _ _ _ _ _ _ _ _ _ _ _ _ _ _ _ _ _ _ _ _ _ _ _ _ _ _ _ _ _ _ _ _ _ _ _ _ _ _ _ _ _ _ _ _ _ _ _ _ _ _ _ _ _ _ _ _ _ _ _ _ _ _ _ _ _ _ _ _ _ _ _ _ _ _ _ _ _ _ _ _ _ _ _ _ _ _ _ _ _ _ _ _ _ _ _ _ _ _ _ _ _ _ _ _ _ _ _ _ _ _ _ _ _ _ _ _ _ _ _ _ _ _ _ _ _ _ _ _ _ _ _ _ _ _ _ _ _ _ _ _ _ _ _ _ _ _ _ _ _ _ _ _ _ _ _ _ _ _ _ _ _ _ _ _ _ _ _ _ _ _ _ _ _ _ _ _ _ _ _ _ _ _ _ _ _ _ _ _ _ _ _ _ _ _ _ _ _ HR.out
set_option maxRecDepth 1000000 in
set_option maxHeartbeats 32000000 in
theorem dflt3c (w0 wb : World) (g q tb tof N tc k i n c : Nat) (cs : List Value) (U L0 : List Int) (T : List Tok) (b : Bool) (A : Option Addr) (s qt : Int) (cu : Int) (d : Int) (Q0 : Exit → Act → World → Prop) {a3 a4 a5 a6 a7 a13 a15 a16 a17 a18 a19 a20 a21 a22 a23 a24 a25 a26 a27 a28 a29 a30 a31 a32 a33 a34 a35 a36 a37 a38 a39 a40 a41 a42 a43 a44 a45 a46 a47 a48 a49 a50 a51 a52 a53 a54 a55 a56 a57 a58 a59 a60 a61 a62 a63 a64 a65 a66 a67 a68 a69 a70 a71 a72 a73 a74 a75 a76 a77 a78 a79 a80 a81 a82 a83 a84 a85 a87 a88 a89 a90 a91 a92 a93 a94 a95 a96 a97 a98 a99 a100 a101 a102 a103 a104 a105 a106 a107 a108 a109 a110 a111 a112 a113 a114 a115 a116 a117 a118 a119 a120 a121 a122 a123 a124 a125 a126 a127 a128 a129 a130 a131 a132 a133 a134 a135 a136 a137 a138 a139 a140 a141 a142 a143 a144 a145 a146 a147 a148 a149 a150 a151 a152 a153 a154 a155 a156 a157 a158 a159 a160 a161 a162 a163 a164 a165 a166 a167 a168 a169 a170 a171 a172 a173 a174 a175 a176 a177 a178 a179 a180 a181 a182 a183 a184 a185 a186 a187 a188 a189 a190 a191 a192 a193 a194 a195 a196 a197 a198 a199 a200 a201 a202 a203 a204 a205 a206 a207 a208 a209 a210 a211 a212 a213 a214 a215 a216 a217 a218 a219 a220 a221 a222 a223 a224 a225 a226 a227 a228 a229 a230 a231 a232 a233 a234 a235 a236 a237 a238 a239 a240 a241 a242 a243 a244 a245 a246 a247 a248 a249 a250 a251 a252 a253 a254 a255 a256 a257 a258 a259 a260 a261 a262 a263 a264 a265 a266 a267 a268 a269 a270 a271 a272 a273 a274 a275 a276 a277 a278 a279 a280 a281 a282 a283 a284 a285 a286 a287 a288 a289 a290 a291 a292 a293 a294 a295 a296 a297 a298 a299 a300 a301 a302 a303 a304 a305 a306 a307 a308 a309 a310 a311 a312 a313 a314 a315 a316 a317 a318 a319 a320 a321 a322 a323 a324 a325 a326 a327 a328 a329 a330 a331 a332 a333 a334 a335 a336 a337 a338 a339 a340 a341 a342 a343 a344 a345 a346 a347 a348 a349 a350 a351 a352 a353 a354 a355 a356 a357 a358 a359 a360 a361 a362 a363 a364 a365 a366 a367 a368 a369 a370 a371 a372 a373 a374 a375 a376 a377 a378 a379 a380 a381 a382 a383 a384 a385 a386 a387 a388 a389 a390 a391 a392 a393 a394 a395 a396 a397 a398 a399 a400 a401 a402 a403 a404 a405 a406 a407 a408 a409 a410 a411 a412 a413 a414 a415 a416 a417 a418 a419 a420 a421 a422 a423 a424 a425 a426 a427 a428 a429 a430 a431 a432 a433 a434 a435 a436 a437 a438 a439 a440 a441 a442 a443 a444 a445 a446 : Value}
    (hp : Pre U L0 w0 g q cs i T b cu A n c s wb) (hk : k = i + 1) (hN : U.length = N) (htx : Tx w0 tb tof U)
    (h0 : 55296 ≤ cu) (h1 : cu ≤ 56319) (hd : U[k]? = some d) (h2 : 57343 < d)
    (hend : ∀ (z15 z16 z17 z18 z19 z20 z21 z22 z23 z87 z88 z89 z90 z91 z92 z93 z94 z95 z96 z97 z98 z99 z100 z101 z102 z103 z104 z105 z106 z107 z108 z109 z110 z111 z112 z113 z114 z115 z116 z117 z118 z119 z120 z121 z122 z123 z124 z125 z126 z127 z128 z129 z130 z131 z132 z133 z134 z135 z136 z137 z138 z139 z140 z141 z142 z143 z144 z145 z146 z147 z148 z149 z150 z151 z152 z153 z154 z155 z156 z157 z158 z159 z160 z161 z162 z163 z164 z165 z166 z167 z168 z169 z170 z171 z172 z173 z174 z175 z176 z177 z178 z179 z180 z181 z182 z183 z184 z185 z186 z187 z188 z189 z190 z191 z192 z193 z194 z195 z196 z197 z198 z199 z200 z201 z202 z203 z204 z205 z206 z207 z208 z209 z210 z211 z212 z213 z214 z215 z216 z217 z218 z219 z220 z221 z222 z223 z224 z225 z226 z227 z228 z229 z230 z231 z232 z233 z234 z235 z236 z237 z238 z239 z240 z241 z242 z243 z244 z245 z246 z247 z248 z249 z250 z251 z252 z253 z254 z255 z256 z257 z258 z259 z260 z261 z262 z263 z264 z265 z266 z267 z268 z269 z270 z271 z272 z273 z274 z275 z276 z277 z278 z279 z280 z281 z282 z283 z284 z285 z286 z287 z288 z289 z290 z291 z292 z293 z294 z295 z296 z297 z298 z299 z300 z301 z302 z303 z304 z305 z306 z307 z308 z309 z310 z311 z312 z313 z314 z315 z316 z317 z318 z319 z320 z321 z322 z323 z324 z325 z326 z327 z328 z329 z330 z331 z332 z333 z334 z335 z336 z337 z338 z339 z340 z341 z342 z343 z344 z345 z346 z347 z348 z349 z350 z351 z352 z353 z354 z355 z356 z357 z358 z359 z360 z361 z362 z363 z364 z365 z366 z367 z368 z369 z370 z371 z372 z373 z374 z375 z376 z377 z378 z379 z380 z381 z382 z383 z384 z385 z386 z387 z388 z389 z390 z391 z392 z393 z394 z395 z396 z397 z398 z399 z400 z401 z402 z403 z404 z405 z406 z407 z408 z409 z410 z411 z412 z413 z414 z415 z416 z417 z418 z419 z420 z421 z422 z423 z424 z425 z426 z427 z428 z429 z430 z431 z432 z433 z434 z435 z436 z437 z438 z439 z440 z441 z442 t9 t10 t12 : Value) (W : World), Rel (i + 1) U L0 w0 g q cs t9 t10 t12 W → Q0 Exit.normal ⟨#[.pointer (some ⟨g, 0, none⟩), .slice (some ⟨tb, tof, none⟩) N tc, .int .i32 qt, a3, a4, a5, a6, a7, .slice (some ⟨q, 0, none⟩) 4 4, t9, t10, .int .i64 (N : Int), t12, a13, .int .u16 cu, z15, z16, z17, z18, z19, z20, z21, z22, z23, a24, a25, a26, a27, a28, a29, a30, a31, a32, a33, a34, a35, a36, a37, a38, a39, a40, a41, a42, a43, a44, a45, a46, a47, a48, a49, a50, a51, a52, a53, a54, a55, a56, a57, a58, a59, a60, a61, a62, a63, a64, a65, a66, a67, a68, a69, a70, a71, a72, a73, a74, a75, a76, a77, a78, a79, a80, a81, a82, a83, a84, a85, .int .u16 cu, z87, z88, z89, z90, z91, z92, z93, z94, z95, z96, z97, z98, z99, z100, z101, z102, z103, z104, z105, z106, z107, z108, z109, z110, z111, z112, z113, z114, z115, z116, z117, z118, z119, z120, z121, z122, z123, z124, z125, z126, z127, z128, z129, z130, z131, z132, z133, z134, z135, z136, z137, z138, z139, z140, z141, z142, z143, z144, z145, z146, z147, z148, z149, z150, z151, z152, z153, z154, z155, z156, z157, z158, z159, z160, z161, z162, z163, z164, z165, z166, z167, z168, z169, z170, z171, z172, z173, z174, z175, z176, z177, z178, z179, z180, z181, z182, z183, z184, z185, z186, z187, z188, z189, z190, z191, z192, z193, z194, z195, z196, z197, z198, z199, z200, z201, z202, z203, z204, z205, z206, z207, z208, z209, z210, z211, z212, z213, z214, z215, z216, z217, z218, z219, z220, z221, z222, z223, z224, z225, z226, z227, z228, z229, z230, z231, z232, z233, z234, z235, z236, z237, z238, z239, z240, z241, z242, z243, z244, z245, z246, z247, z248, z249, z250, z251, z252, z253, z254, z255, z256, z257, z258, z259, z260, z261, z262, z263, z264, z265, z266, z267, z268, z269, z270, z271, z272, z273, z274, z275, z276, z277, z278, z279, z280, z281, z282, z283, z284, z285, z286, z287, z288, z289, z290, z291, z292, z293, z294, z295, z296, z297, z298, z299, z300, z301, z302, z303, z304, z305, z306, z307, z308, z309, z310, z311, z312, z313, z314, z315, z316, z317, z318, z319, z320, z321, z322, z323, z324, z325, z326, z327, z328, z329, z330, z331, z332, z333, z334, z335, z336, z337, z338, z339, z340, z341, z342, z343, z344, z345, z346, z347, z348, z349, z350, z351, z352, z353, z354, z355, z356, z357, z358, z359, z360, z361, z362, z363, z364, z365, z366, z367, z368, z369, z370, z371, z372, z373, z374, z375, z376, z377, z378, z379, z380, z381, z382, z383, z384, z385, z386, z387, z388, z389, z390, z391, z392, z393, z394, z395, z396, z397, z398, z399, z400, z401, z402, z403, z404, z405, z406, z407, z408, z409, z410, z411, z412, z413, z414, z415, z416, z417, z418, z419, z420, z421, z422, z423, z424, z425, z426, z427, z428, z429, z430, z431, z432, z433, z434, z435, z436, z437, z438, z439, z440, z441, z442, a443, a444, a445, a446], []⟩ W)
    (hpan : ∀ c (a : Act) (k : Nat) (v : Value) W, Q0 (Exit.panic c) (a.put (some k) v) W → Q0 (Exit.panic c) a W) :
    Code.wp Tryf.prog pieceD Q0 ⟨#[.pointer (some ⟨g, 0, none⟩), .slice (some ⟨tb, tof, none⟩) N tc, .int .i32 qt, a3, a4, a5, a6, a7, .slice (some ⟨q, 0, none⟩) 4 4, .slice A n c, .int .i64 (k : Int), .int .i64 (N : Int), .int .i64 s, a13, .int .u16 cu, a15, a16, a17, a18, a19, a20, a21, a22, a23, a24, a25, a26, a27, a28, a29, a30, a31, a32, a33, a34, a35, a36, a37, a38, a39, a40, a41, a42, a43, a44, a45, a46, a47, a48, a49, a50, a51, a52, a53, a54, a55, a56, a57, a58, a59, a60, a61, a62, a63, a64, a65, a66, a67, a68, a69, a70, a71, a72, a73, a74, a75, a76, a77, a78, a79, a80, a81, a82, a83, a84, a85, .int .u16 cu, a87, a88, a89, a90, a91, a92, a93, a94, a95, a96, a97, a98, a99, a100, a101, a102, a103, a104, a105, a106, a107, a108, a109, a110, a111, a112, a113, a114, a115, a116, a117, a118, a119, a120, a121, a122, a123, a124, a125, a126, a127, a128, a129, a130, a131, a132, a133, a134, a135, a136, a137, a138, a139, a140, a141, a142, a143, a144, a145, a146, a147, a148, a149, a150, a151, a152, a153, a154, a155, a156, a157, a158, a159, a160, a161, a162, a163, a164, a165, a166, a167, a168, a169, a170, a171, a172, a173, a174, a175, a176, a177, a178, a179, a180, a181, a182, a183, a184, a185, a186, a187, a188, a189, a190, a191, a192, a193, a194, a195, a196, a197, a198, a199, a200, a201, a202, a203, a204, a205, a206, a207, a208, a209, a210, a211, a212, a213, a214, a215, a216, a217, a218, a219, a220, a221, a222, a223, a224, a225, a226, a227, a228, a229, a230, a231, a232, a233, a234, a235, a236, a237, a238, a239, a240, a241, a242, a243, a244, a245, a246, a247, a248, a249, a250, a251, a252, a253, a254, a255, a256, a257, a258, a259, a260, a261, a262, a263, a264, a265, a266, a267, a268, a269, a270, a271, a272, a273, a274, a275, a276, a277, a278, a279, a280, a281, a282, a283, a284, a285, a286, a287, a288, a289, a290, a291, a292, a293, a294, a295, a296, a297, a298, a299, a300, a301, a302, a303, a304, a305, a306, a307, a308, a309, a310, a311, a312, a313, a314, a315, a316, a317, a318, a319, a320, a321, a322, a323, a324, a325, a326, a327, a328, a329, a330, a331, a332, a333, a334, a335, a336, a337, a338, a339, a340, a341, a342, a343, a344, a345, a346, a347, a348, a349, a350, a351, a352, a353, a354, a355, a356, a357, a358, a359, a360, a361, a362, a363, a364, a365, a366, a367, a368, a369, a370, a371, a372, a373, a374, a375, a376, a377, a378, a379, a380, a381, a382, a383, a384, a385, a386, a387, a388, a389, a390, a391, a392, a393, a394, a395, a396, a397, a398, a399, a400, a401, a402, a403, a404, a405, a406, a407, a408, a409, a410, a411, a412, a413, a414, a415, a416, a417, a418, a419, a420, a421, a422, a423, a424, a425, a426, a427, a428, a429, a430, a431, a432, a433, a434, a435, a436, a437, a438, a439, a440, a441, a442, a443, a444, a445, a446], []⟩ wb := by
  have HEND := Lib.hid hend
  have HQ := Lib.hid hpan
  have HP := Lib.hid hp
  have HS := Lib.hid hp.sn
  have HK := Lib.hid hk
  clear hpan
  clear hend hp hk
  obtain ⟨hc, hd0, hd1⟩ := htx.at_ HS.out.2.2.kept hd
  have hkn : k < N := by rw [← hN]; exact (List.getElem?_eq_some_iff.1 hd).1
  have i1 : (k : Int) < (N : Int) := by omega
  have hN3 : (N : Int) ≤ 1048576 := by have := HP.out.hU; omega
  have HD := Lib.hid hd
  clear hkn hd htx hN
  have X1 : ∀ W, (Instr.index 9 (.string ⟨#[48, 49, 50, 51, 52, 53, 54, 55, 56, 57, 65, 66, 67, 68, 69, 70]⟩) (.int .u16 (cu / 4096))).run Tryf.prog W = .ok (.int .u8 (hexd (cu / 4096))) W := fun W => hexRun _ (by omega) (by omega) W
  obtain ⟨v2, V2, B2⟩ : ∃ v, v = cu / 256 % 16 ∧ bits .and .u16 (cu / 256) 15 = v := ⟨_, rfl, u16and15 _ (by omega) (by omega)⟩
  obtain ⟨v3, V3, B3⟩ : ∃ v, v = cu / 16 % 16 ∧ bits .and .u16 (cu / 16) 15 = v := ⟨_, rfl, u16and15 _ (by omega) (by omega)⟩
  obtain ⟨v4, V4, B4⟩ : ∃ v, v = cu % 16 ∧ bits .and .u16 cu 15 = v := ⟨_, rfl, u16and15 _ (by omega) (by omega)⟩
  have X2 : ∀ W, (Instr.index 9 (.string ⟨#[48, 49, 50, 51, 52, 53, 54, 55, 56, 57, 65, 66, 67, 68, 69, 70]⟩) (.int .u16 v2)).run Tryf.prog W = .ok (.int .u8 (hexd v2)) W := fun W => hexRun _ (by omega) (by omega) W
  have HV2 := Lib.hid V2
  have X3 : ∀ W, (Instr.index 9 (.string ⟨#[48, 49, 50, 51, 52, 53, 54, 55, 56, 57, 65, 66, 67, 68, 69, 70]⟩) (.int .u16 v3)).run Tryf.prog W = .ok (.int .u8 (hexd v3)) W := fun W => hexRun _ (by omega) (by omega) W
  have HV3 := Lib.hid V3
  have X4 : ∀ W, (Instr.index 9 (.string ⟨#[48, 49, 50, 51, 52, 53, 54, 55, 56, 57, 65, 66, 67, 68, 69, 70]⟩) (.int .u16 v4)).run Tryf.prog W = .ok (.int .u8 (hexd v4)) W := fun W => hexRun _ (by omega) (by omega) W
  have HV4 := Lib.hid V4
  clear V2 V3 V4
  conv => arg 2; whnf
  go_upto_region 34 with fail
  refine wp_region_held_drew (S := fun _ => True) (by kernel_rfl) trivial (fun _ => ?_)
  refine takeY 0 (some 190) (.slice A n c) rfl rfl (by kernel_rfl) (by kernel_rfl) (by kernel_rfl) (fun c a w h => HQ.out c a _ _ w h) (by kernel_rfl) ?_ trivial ?_
  · intro W _
    go_simp
  simp only [Act.put, List.setIfInBounds_toArray, List.set_cons_zero, List.set_cons_succ]
  refine takeY 1 (some 191) (.int .u16 cu) rfl rfl (by kernel_rfl) (by kernel_rfl) (by kernel_rfl) (fun c a w h => HQ.out c a _ _ w h) (by kernel_rfl) ?_ trivial ?_
  · intro W _
    go_simp
  simp only [Act.put, List.setIfInBounds_toArray, List.set_cons_zero, List.set_cons_succ]
  refine takeY 2 (some 192) (.int .u16 (cu / 4096)) rfl rfl (by kernel_rfl) (by kernel_rfl) (by kernel_rfl) (fun c a w h => HQ.out c a _ _ w h) (by kernel_rfl) ?_ trivial ?_
  · intro W _
    go_simp
  simp only [Act.put, List.setIfInBounds_toArray, List.set_cons_zero, List.set_cons_succ]
  refine takeY 3 (some 193) (.int .u8 (hexd (cu / 4096))) rfl rfl (by kernel_rfl) (by kernel_rfl) (by kernel_rfl) (fun c a w h => HQ.out c a _ _ w h) (by kernel_rfl) ?_ trivial ?_
  · intro W _
    go_simp
  simp only [Act.put, List.setIfInBounds_toArray, List.set_cons_zero, List.set_cons_succ]
  refine takeY 4 (some 194) (.int .u16 cu) rfl rfl (by kernel_rfl) (by kernel_rfl) (by kernel_rfl) (fun c a w h => HQ.out c a _ _ w h) (by kernel_rfl) ?_ trivial ?_
  · intro W _
    go_simp
  simp only [Act.put, List.setIfInBounds_toArray, List.set_cons_zero, List.set_cons_succ]
  refine takeY 5 (some 195) (.int .u16 (cu / 256)) rfl rfl (by kernel_rfl) (by kernel_rfl) (by kernel_rfl) (fun c a w h => HQ.out c a _ _ w h) (by kernel_rfl) ?_ trivial ?_
  · intro W _
    go_simp
  simp only [Act.put, List.setIfInBounds_toArray, List.set_cons_zero, List.set_cons_succ]
  refine takeY 6 (some 196) (.int .u16 v2) rfl rfl (by kernel_rfl) (by kernel_rfl) (by kernel_rfl) (fun c a w h => HQ.out c a _ _ w h) (by kernel_rfl) ?_ trivial ?_
  · intro W _
    go_simp
  simp only [Act.put, List.setIfInBounds_toArray, List.set_cons_zero, List.set_cons_succ]
  refine takeY 7 (some 197) (.int .u8 (hexd v2)) rfl rfl (by kernel_rfl) (by kernel_rfl) (by kernel_rfl) (fun c a w h => HQ.out c a _ _ w h) (by kernel_rfl) ?_ trivial ?_
  · intro W _
    go_simp
  simp only [Act.put, List.setIfInBounds_toArray, List.set_cons_zero, List.set_cons_succ]
  refine takeY 8 (some 198) (.int .u16 cu) rfl rfl (by kernel_rfl) (by kernel_rfl) (by kernel_rfl) (fun c a w h => HQ.out c a _ _ w h) (by kernel_rfl) ?_ trivial ?_
  · intro W _
    go_simp
  simp only [Act.put, List.setIfInBounds_toArray, List.set_cons_zero, List.set_cons_succ]
  refine takeY 9 (some 199) (.int .u16 (cu / 16)) rfl rfl (by kernel_rfl) (by kernel_rfl) (by kernel_rfl) (fun c a w h => HQ.out c a _ _ w h) (by kernel_rfl) ?_ trivial ?_
  · intro W _
    go_simp
  simp only [Act.put, List.setIfInBounds_toArray, List.set_cons_zero, List.set_cons_succ]
  refine takeY 10 (some 200) (.int .u16 v3) rfl rfl (by kernel_rfl) (by kernel_rfl) (by kernel_rfl) (fun c a w h => HQ.out c a _ _ w h) (by kernel_rfl) ?_ trivial ?_
  · intro W _
    go_simp
  simp only [Act.put, List.setIfInBounds_toArray, List.set_cons_zero, List.set_cons_succ]
  refine takeY 11 (some 201) (.int .u8 (hexd v3)) rfl rfl (by kernel_rfl) (by kernel_rfl) (by kernel_rfl) (fun c a w h => HQ.out c a _ _ w h) (by kernel_rfl) ?_ trivial ?_
  · intro W _
    go_simp
  simp only [Act.put, List.setIfInBounds_toArray, List.set_cons_zero, List.set_cons_succ]
  refine takeY 12 (some 202) (.int .u16 cu) rfl rfl (by kernel_rfl) (by kernel_rfl) (by kernel_rfl) (fun c a w h => HQ.out c a _ _ w h) (by kernel_rfl) ?_ trivial ?_
  · intro W _
    go_simp
  simp only [Act.put, List.setIfInBounds_toArray, List.set_cons_zero, List.set_cons_succ]
  refine takeY 13 (some 203) (.int .u16 v4) rfl rfl (by kernel_rfl) (by kernel_rfl) (by kernel_rfl) (fun c a w h => HQ.out c a _ _ w h) (by kernel_rfl) ?_ trivial ?_
  · intro W _
    go_simp
  simp only [Act.put, List.setIfInBounds_toArray, List.set_cons_zero, List.set_cons_succ]
  refine takeY 14 (some 204) (.int .u8 (hexd v4)) rfl rfl (by kernel_rfl) (by kernel_rfl) (by kernel_rfl) (fun c a w h => HQ.out c a _ _ w h) (by kernel_rfl) ?_ trivial ?_
  · intro W _
    go_simp
  simp only [Act.put, List.setIfInBounds_toArray, List.set_cons_zero, List.set_cons_succ]
  refine wpAnyH_ready (rs := [15]) (by kernel_rfl) (by simp) ?_
  refine AllReadyH.cons rfl (fun K hK => ?_) AllReadyH.nil
  go_simp
  refine hK.out _ _ trivial (fun _ => ?_)
  clear hK K
  have HSD := Lib.hid HS.out.drew
  refine wpAnyH_ready (rs := [16]) (by kernel_rfl) (by simp) ?_
  refine AllReadyH.cons rfl (fun K hK => ?_) AllReadyH.nil
  refine step_row wb.drew [92, 117, hexd (cu / 4096), hexd v2, hexd v3, hexd v4] 206 (by rfl) (by rfl) _ _ (by rfl) A n c _ (by rfl) HSD 6 (by rfl) (by rfl) (by decide) (by decide) ?_
  intro A1 n1 c1 w1 H1
  refine hK.out _ _ trivial (fun _ => ?_)
  clear hK K
  simp only [Act.put, List.setIfInBounds_toArray, List.set_cons_zero, List.set_cons_succ]
  refine takeY 17 (some 9) (.slice A1 n1 c1) rfl rfl (by kernel_rfl) (by kernel_rfl) (by kernel_rfl) (fun c a w h => HQ.out c a _ _ w h) (by kernel_rfl) ?_ trivial ?_
  · intro W _
    go_simp
  simp only [Act.put, List.setIfInBounds_toArray, List.set_cons_zero, List.set_cons_succ]
  refine wpAnyH_done (by kernel_rfl) ?_ _
  have HR : Hid (Rel (i + 1) U L0 w0 g q cs (.slice A1 n1 c1) (.int .i64 (k : Int)) (.int .i64 (s)) w1) := Lib.hid (by
    rw [HK.out]
    exact HP.out.one (.hx4 cu) (by simp [Tok.valid]; omega) rfl (.inl trivial) (fun e => by cases e) (H1.out (by have := HP.out.len; omega)) (by rw [HV2.out, HV3.out, HV4.out]; rfl) (by have := HP.out.lo; omega) (HP.out.hi))
  go_wp2_with fail
  refine HEND.out _ _ _ _ _ _ _ _ _ _ _ _ _ _ _ _ _ _ _ _ _ _ _ _ _ _ _ _ _ _ _ _ _ _ _ _ _ _ _ _ _ _ _ _ _ _ _ _ _ _ _ _ _ _ _ _ _ _ _ _ _ _ _ _ _ _ _ _ _ _ _ _ _ _ _ _ _ _ _ _ _ _ _ _ _ _ _ _ _ _ _ _ _ _ _ _ _ _ _ _ _ _ _ _ _ _ _ _ _ _ _ _ _ _ _ _ _ _ _ _ _ _ _ _ _ _ _ _ _ _ _ _ _ _ _ _ _ _ _ _ _ _ _ _ _ _ _ _ _ _ _ _ _ _ _ _ _ _ _ _ _ _ _ _ _ _ _ _ _ _ _ _ _ _ _ _ _ _ _ _ _ _ _ _ _ _ _ _ _ _ _ _ _ _ _ _ _ _ _ _ _ _ _ _ _ _ _ _ _ _ _ _ _ _ _ _ _ _ _ _ _ _ _ _ _ _ _ _ _ _ _ _ _ _ _ _ _ _ _ _ _ _ _ _ _ _ _ _ _ _ _ _ _ _ _ _ _ _ _ _ _ _ _ _ _ _ _ _ _ _ _ _ _ _ _ _ _ _ _ _ _ _ _ _ _ _ _ _ _ _ _ _ _ _ _ _ _ _ _ _ _ _ _ _ _ _ _ _ _ _ _ _ _ _ _ _ _ _ _ _ _ _ _ _ _ _ _ _ _ _ _ _ _ _ _ _ _ _ _ _ _ _ _ _ _ _ _ _ _ _ _ _ _ _ _ _ _ _ _ _ _ _ _ _ _ _ _ _ _ HR.out
end Go.Proofs.YteoeiklojidgnaaFmt.uw
