/-
  printUnquotedUTF16 over this seat's program: it appends what denotes the units, token by token.
  Conditions: at most 2^20 bytes and units.
-/
import Derived.Test.YteoeiklojidgnaaFmtWl
import Derived.Test.YteoeiklojidgnaaFmtLln
import Derived.Test.YteoeiklojidgnaaFmtWn
namespace Go.Proofs.YteoeiklojidgnaaFmt.uw
open Go.ChangeShapes Go.WideShapes Go.ChangeAt Go.RowKit
open kit pr uq

/-- what the printer's call leaves -/
def Wrote (w0 : World) (g : Nat) (U L0 : List Int) (e : Ending) (w' : World) : Prop :=
  e = .returned (.tuple #[]) ∧ ∃ T A c cs, At U U.length T ∧ Pr w' g cs A c (L0 ++ bytesT T) ∧ Kept w0 w' ∧ ∀ k, A.map (·.block) = some k → w0.heap.size ≤ k

/-- the four spare bytes are made -/
theorem sn_start {w0 w : World} {g c : Nat} {cs : List Value} {A : Option Addr} {L0 : List Int} (hp : Pr w g cs A c L0) (hk : Kept w0 w) (hg : w0.heap.size ≤ g) (hA : ∀ k, A.map (·.block) = some k → w0.heap.size ≤ k) (hb : L0.length ≤ 1048576) :
    SN w0 g w.heap.size cs (w.alloc (.cells #[.int .u8 0, .int .u8 0, .int .u8 0, .int .u8 0] 5)) A L0.length c L0 := by
  refine ⟨rfl, by omega, hk.alloc _, hp.blk.alloc _, own_kept hp.own ((Kept.refl w).alloc _), hA, hg, hk.size, ⟨[.int .u8 0, .int .u8 0, .int .u8 0, .int .u8 0], rfl, Blk.new w 5 _⟩, fun e => ?_⟩
  exact Nat.lt_irrefl _ (hp.rowLt _ e)
theorem sn_lined {w0 w w2 : World} {g q n c : Nat} {cs cs2 : List Value} {A : Option Addr} {L : List Int} (h : SN w0 g q cs w A n c L) (hp : Pr w2 g cs2 A c L) (hs : Step w w2 g none none) : SN w0 g q cs2 w2 A n c L := by
  obtain ⟨h1, h2, hst⟩ := h
  obtain ⟨ct, t1, t2⟩ := hst.tmp
  have hg := hst.blk.apart t2 (by decide)
  refine ⟨h1, h2, ⟨hs.os.trans hst.kept.os, hs.tape.trans hst.kept.tape, hs.output.trans hst.kept.output, Nat.le_trans hst.kept.size hs.size, fun k hk => ?_⟩, hp.blk, hp.own, hst.lo, hst.lg, hst.lq, ⟨ct, t1, ?_⟩, hst.sep⟩
  · have := hst.lg
    have := hst.kept.size
    exact (hs.block k (by omega) (by omega) (fun e => by cases e)).trans (hst.kept.block k hk)
  · exact (hs.block q t2.lt (fun e => hg e.symm) (fun e => by cases e)).trans t2
theorem rel_start {w0 w : World} {g q n c : Nat} {cs : List Value} {A : Option Addr} {U L0 : List Int} {s : Int} (h : SN w0 g q cs w A n c L0) (h1 : 0 ≤ s) (h2 : s ≤ 2097152) : Rel 0 U L0 w0 g q cs (.slice A n c) (.int .i64 0) (.int .i64 s) w :=
  ⟨0, [], A, n, c, s, Nat.le_refl _, Nat.zero_le _, At.nil U, rfl, rfl, rfl, by simpa using h1, h2, by simpa [bytesT] using h⟩
theorem wrote_end {w0 w : World} {g q : Nat} {cs : List Value} {U L0 : List Int} {t10 t12 : Value} {A : Option Addr} {n c N : Nat} (hN : U.length = N) (h : Rel N U L0 w0 g q cs (.slice A n c) t10 t12 w) (hc : 9 < cs.length) :
    Wrote w0 g U L0 (.returned (.tuple #[])) (w.setCell ⟨g, 9, none⟩ (.slice A n c)) := by
  obtain ⟨i, T, A2, n2, c2, s, h1, h2, hat, e9, _, _, _, _, hn, _, hst⟩ := h
  injection e9 with ea en ec
  subst ea en ec hN
  obtain rfl : i = U.length := by omega
  refine ⟨rfl, T, A, c, cs.set 9 (.slice A n c), hat, ⟨hst.blk.set 9 _, ?_, ?_⟩, hst.kept.setCell hst.lg _, hst.lo⟩
  · rw [hn]
    show (cs.set 9 (Value.slice A n c))[9]? = _
    rw [List.getElem?_set_self hc]
  · exact own_far (p := ⟨g, 9, none⟩) hst.own (hst.blk.notOwned hst.own (by decide))

set_option maxRecDepth 1000000 in
set_option maxHeartbeats 32000000 in
theorem unq (w0 w : World) (g c N tc tb tof : Nat) (cs : List Value) (A ta : Option Addr) (U L0 : List Int) (qt fl lim : Int) (asc ni : Bool) (hp : Pr w g cs A c L0) (hk : Kept w0 w) (hg : w0.heap.size ≤ g) (hA : ∀ k, A.map (·.block) = some k → w0.heap.size ≤ k)
    (hasc : cs[31]? = some (.bool asc)) (hfe : cs[24]? = some (.int .u64 (featOf asc ni))) (hlim : cs[26]? = some (.int .i64 lim)) (h69 : cs[69]? = some (.int .i64 0)) (h70 : cs[70]? = some (.int .i64 0)) (hl2 : lim ≤ 9223372036854775807) (hl3 : -9223372036854775808 ≤ lim)
    (hN : U.length = N) (htx : Tx w0 tb tof U) (hta : 0 < N → ta = some ⟨tb, tof, none⟩) (hL : L0.length ≤ 1048576) (hU : U.length ≤ 1048576) :
    Calls Tryf.prog 15 #[.pointer (some ⟨g, 0, none⟩), .slice ta N tc, .int .i32 qt, .int .u8 fl] w (Wrote w0 g U L0) := by
  have HSN := Lib.hid (sn_start hp hk hg hA hL)
  have HP1 := Lib.hid (hp.kept ((Kept.refl w).alloc (.cells #[.int .u8 0, .int .u8 0, .int .u8 0, .int .u8 0] 5)))
  have hc9 : w.cell? ⟨g, 9, none⟩ = some (.slice A L0.length c) := hp.jcell
  have HTX := Lib.hid htx
  have HNN := Lib.hid hN
  have HAS := Lib.hid hasc
  have HFE := Lib.hid hfe
  have HLI := Lib.hid hlim
  have HLL := Lib.hid hL
  have HTA := Lib.hid hta
  have HU := Lib.hid hU
  have H69 := Lib.hid h69
  have H70 := Lib.hid h70
  have HLEN : Hid (9 < cs.length) := Lib.hid hp.jlt
  have hn0 : L0.length ≤ 1048576 := hL
  have hN3 : N ≤ 1048576 := by omega
  have hc26 : (w.alloc (.cells #[.int .u8 0, .int .u8 0, .int .u8 0, .int .u8 0] 5)).cell? ⟨g, 26, none⟩ = some (.int .i64 lim) := by rw [HP1.out.blk.cell]; exact HLI.out
  have hc9b : (w.alloc (.cells #[.int .u8 0, .int .u8 0, .int .u8 0, .int .u8 0] 5)).cell? ⟨g, 9, none⟩ = some (.slice A L0.length c) := HP1.out.jcell
  clear hp hk hg hA hasc hfe hlim h69 h70 hN htx hta hL hU
  generalize hn : L0.length = n at *
  have HN0 := Lib.hid hn
  clear hn
  have hmk : ∀ W : World, (Instr.makeSlice 22 (.int .i64 4) (.int .i64 4)).run Tryf.prog W = .ok (.slice (some ⟨W.heap.size, 0, none⟩) 4 4) (W.alloc (.cells #[.int .u8 0, .int .u8 0, .int .u8 0, .int .u8 0] 5)) := fun W => by kernel_rfl
  by_cases hpos : 0 < lim
  · cases hz : (bits .and .u8 fl 2 == 0)
    · go_enter Tryf.func15, Tryf.ntmps15
      have HST : Hid (Rel 0 U L0 w0 g w.heap.size cs (.slice A n c) (.int .i64 0) (.int .i64 0) (w.alloc (.cells #[.int .u8 0, .int .u8 0, .int .u8 0, .int .u8 0] 5))) := Lib.hid (rel_start HSN.out (by omega) (by omega))
      go_upto_block 0 with fail
      refine loopW w0 _ g w.heap.size tb tof N tc n c ta cs U L0 A 0 qt lim asc ni false _ HST.out HNN.out HTX.out HTA.out HAS.out HFE.out HLI.out (fun h => by cases h) hl2 (by rw [HN0.out]; exact HLL.out) HU.out ?_ (fun c a k v W h => h)
      clear HST
      intro z14 z15 z16 z17 z18 z19 z20 z21 z22 z23 z56 z57 z58 z59 z60 z61 z62 z63 z64 z65 z66 z67 z68 z69 z70 z71 z72 z73 z74 z75 z76 z77 z78 z79 z80 z81 z82 z83 z84 z85 z86 z87 z88 z89 z90 z91 z92 z93 z94 z95 z96 z97 z98 z99 z100 z101 z102 z103 z104 z105 z106 z107 z108 z109 z110 z111 z112 z113 z114 z115 z116 z117 z118 z119 z120 z121 z122 z123 z124 z125 z126 z127 z128 z129 z130 z131 z132 z133 z134 z135 z136 z137 z138 z139 z140 z141 z142 z143 z144 z145 z146 z147 z148 z149 z150 z151 z152 z153 z154 z155 z156 z157 z158 z159 z160 z161 z162 z163 z164 z165 z166 z167 z168 z169 z170 z171 z172 z173 z174 z175 z176 z177 z178 z179 z180 z181 z182 z183 z184 z185 z186 z187 z188 z189 z190 z191 z192 z193 z194 z195 z196 z197 z198 z199 z200 z201 z202 z203 z204 z205 z206 z207 z208 z209 z210 z211 z212 z213 z214 z215 z216 z217 z218 z219 z220 z221 z222 z223 z224 z225 z226 z227 z228 z229 z230 z231 z232 z233 z234 z235 z236 z237 z238 z239 z240 z241 z242 z243 z244 z245 z246 z247 z248 z249 z250 z251 z252 z253 z254 z255 z256 z257 z258 z259 z260 z261 z262 z263 z264 z265 z266 z267 z268 z269 z270 z271 z272 z273 z274 z275 z276 z277 z278 z279 z280 z281 z282 z283 z284 z285 z286 z287 z288 z289 z290 z291 z292 z293 z294 z295 z296 z297 z298 z299 z300 z301 z302 z303 z304 z305 z306 z307 z308 z309 z310 z311 z312 z313 z314 z315 z316 z317 z318 z319 z320 z321 z322 z323 z324 z325 z326 z327 z328 z329 z330 z331 z332 z333 z334 z335 z336 z337 z338 z339 z340 z341 z342 z343 z344 z345 z346 z347 z348 z349 z350 z351 z352 z353 z354 z355 z356 z357 z358 z359 z360 z361 z362 z363 z364 z365 z366 z367 z368 z369 z370 z371 z372 z373 z374 z375 z376 z377 z378 z379 z380 z381 z382 z383 z384 z385 z386 z387 z388 z389 z390 z391 z392 z393 z394 z395 z396 z397 z398 z399 z400 z401 z402 z403 z404 z405 z406 z407 z408 z409 z410 z411 z412 z413 z414 z415 z416 z417 z418 z419 z420 z421 z422 z423 z424 z425 z426 z427 z428 z429 z430 z431 z432 z433 z434 z435 z436 z437 z438 z439 z440 z441 z442 t9 t10 t12 W hR
      have hR2 := hR
      obtain ⟨i2, T2, A2, n2, c2, s2, _, _, _, rfl, _, _, _, _, _, _, hst⟩ := hR2
      have hb9 : ∃ v, W.cell? ⟨g, 9, none⟩ = some v := ⟨_, hst.blk.cellD (i := 9) HLEN.out⟩
      obtain ⟨v9, hb9⟩ := hb9
      have hf9 := hst.blk.free 9
      have HRR := Lib.hid (wrote_end HNN.out hR HLEN.out)
      clear hR hst
      go_wp2_with fail
      go_end0
      exact HRR.out
    · go_enter Tryf.func15, Tryf.ntmps15
      go_wp2_with fail
      refine (line.lineLen _ g cs A c L0 0 HP1.out (by rw [H69.out]; rfl) H70.out (Nat.zero_le _) (by rw [HN0.out]; have := HLL.out; omega)).mono ?_
      rintro e w2 ⟨cs2, rfl, hp2, h69b, h70b, hsame, hstep⟩
      have HSN2 := Lib.hid (sn_lined HSN.out hp2 hstep)
      have HAS2 := Lib.hid ((hsame 31 (by decide) (by decide)).trans HAS.out)
      have HFE2 := Lib.hid ((hsame 24 (by decide) (by decide)).trans HFE.out)
      have HLI2 := Lib.hid ((hsame 26 (by decide) (by decide)).trans HLI.out)
      have HLEN2 : Hid (9 < cs2.length) := Lib.hid hp2.jlt
      have hc26b : w2.cell? ⟨g, 26, none⟩ = some (.int .i64 lim) := by rw [hp2.blk.cell]; exact HLI2.out
      have hr1 := line.lsU_le L0 L0.length
      have hr2 : ∃ r : Int, (L0.length : Int) - (line.lsU L0 L0.length : Int) = r ∧ 0 ≤ r ∧ r ≤ 1048576 := ⟨_, rfl, by omega, by have := HLL.out; have := HN0.out; omega⟩
      obtain ⟨r, hr, hr3, hr4⟩ := hr2
      rw [hr]
      clear hr hr1 hp2 h69b h70b hsame hstep hc26 hc9b hc9
      dsimp only
      by_cases hgt : lim < r
      · skip
        have HST : Hid (Rel 0 U L0 w0 g w.heap.size cs2 (.slice A n c) (.int .i64 0) (.int .i64 lim) w2) := Lib.hid (rel_start HSN2.out (by omega) (by omega))
        go_upto_block 0 with fail
        refine loopW w0 _ g w.heap.size tb tof N tc n c ta cs2 U L0 A lim qt lim asc ni true _ HST.out HNN.out HTX.out HTA.out HAS2.out HFE2.out HLI2.out (fun _ => hpos) hl2 (by rw [HN0.out]; exact HLL.out) HU.out ?_ (fun c a k v W h => h)
        clear HST
        intro z14 z15 z16 z17 z18 z19 z20 z21 z22 z23 z56 z57 z58 z59 z60 z61 z62 z63 z64 z65 z66 z67 z68 z69 z70 z71 z72 z73 z74 z75 z76 z77 z78 z79 z80 z81 z82 z83 z84 z85 z86 z87 z88 z89 z90 z91 z92 z93 z94 z95 z96 z97 z98 z99 z100 z101 z102 z103 z104 z105 z106 z107 z108 z109 z110 z111 z112 z113 z114 z115 z116 z117 z118 z119 z120 z121 z122 z123 z124 z125 z126 z127 z128 z129 z130 z131 z132 z133 z134 z135 z136 z137 z138 z139 z140 z141 z142 z143 z144 z145 z146 z147 z148 z149 z150 z151 z152 z153 z154 z155 z156 z157 z158 z159 z160 z161 z162 z163 z164 z165 z166 z167 z168 z169 z170 z171 z172 z173 z174 z175 z176 z177 z178 z179 z180 z181 z182 z183 z184 z185 z186 z187 z188 z189 z190 z191 z192 z193 z194 z195 z196 z197 z198 z199 z200 z201 z202 z203 z204 z205 z206 z207 z208 z209 z210 z211 z212 z213 z214 z215 z216 z217 z218 z219 z220 z221 z222 z223 z224 z225 z226 z227 z228 z229 z230 z231 z232 z233 z234 z235 z236 z237 z238 z239 z240 z241 z242 z243 z244 z245 z246 z247 z248 z249 z250 z251 z252 z253 z254 z255 z256 z257 z258 z259 z260 z261 z262 z263 z264 z265 z266 z267 z268 z269 z270 z271 z272 z273 z274 z275 z276 z277 z278 z279 z280 z281 z282 z283 z284 z285 z286 z287 z288 z289 z290 z291 z292 z293 z294 z295 z296 z297 z298 z299 z300 z301 z302 z303 z304 z305 z306 z307 z308 z309 z310 z311 z312 z313 z314 z315 z316 z317 z318 z319 z320 z321 z322 z323 z324 z325 z326 z327 z328 z329 z330 z331 z332 z333 z334 z335 z336 z337 z338 z339 z340 z341 z342 z343 z344 z345 z346 z347 z348 z349 z350 z351 z352 z353 z354 z355 z356 z357 z358 z359 z360 z361 z362 z363 z364 z365 z366 z367 z368 z369 z370 z371 z372 z373 z374 z375 z376 z377 z378 z379 z380 z381 z382 z383 z384 z385 z386 z387 z388 z389 z390 z391 z392 z393 z394 z395 z396 z397 z398 z399 z400 z401 z402 z403 z404 z405 z406 z407 z408 z409 z410 z411 z412 z413 z414 z415 z416 z417 z418 z419 z420 z421 z422 z423 z424 z425 z426 z427 z428 z429 z430 z431 z432 z433 z434 z435 z436 z437 z438 z439 z440 z441 z442 t9 t10 t12 W hR
        have hR2 := hR
        obtain ⟨i2, T2, A2, n2, c2, s2, _, _, _, rfl, _, _, _, _, _, _, hst⟩ := hR2
        have hb9 : ∃ v, W.cell? ⟨g, 9, none⟩ = some v := ⟨_, hst.blk.cellD (i := 9) HLEN2.out⟩
        obtain ⟨v9, hb9⟩ := hb9
        have hf9 := hst.blk.free 9
        have HRR := Lib.hid (wrote_end HNN.out hR HLEN2.out)
        clear hR hst
        go_wp2_with fail
        go_end0
        exact HRR.out
      · skip
        have HST : Hid (Rel 0 U L0 w0 g w.heap.size cs2 (.slice A n c) (.int .i64 0) (.int .i64 r) w2) := Lib.hid (rel_start HSN2.out (by omega) (by omega))
        go_upto_block 0 with fail
        refine loopW w0 _ g w.heap.size tb tof N tc n c ta cs2 U L0 A r qt lim asc ni true _ HST.out HNN.out HTX.out HTA.out HAS2.out HFE2.out HLI2.out (fun _ => hpos) hl2 (by rw [HN0.out]; exact HLL.out) HU.out ?_ (fun c a k v W h => h)
        clear HST
        intro z14 z15 z16 z17 z18 z19 z20 z21 z22 z23 z56 z57 z58 z59 z60 z61 z62 z63 z64 z65 z66 z67 z68 z69 z70 z71 z72 z73 z74 z75 z76 z77 z78 z79 z80 z81 z82 z83 z84 z85 z86 z87 z88 z89 z90 z91 z92 z93 z94 z95 z96 z97 z98 z99 z100 z101 z102 z103 z104 z105 z106 z107 z108 z109 z110 z111 z112 z113 z114 z115 z116 z117 z118 z119 z120 z121 z122 z123 z124 z125 z126 z127 z128 z129 z130 z131 z132 z133 z134 z135 z136 z137 z138 z139 z140 z141 z142 z143 z144 z145 z146 z147 z148 z149 z150 z151 z152 z153 z154 z155 z156 z157 z158 z159 z160 z161 z162 z163 z164 z165 z166 z167 z168 z169 z170 z171 z172 z173 z174 z175 z176 z177 z178 z179 z180 z181 z182 z183 z184 z185 z186 z187 z188 z189 z190 z191 z192 z193 z194 z195 z196 z197 z198 z199 z200 z201 z202 z203 z204 z205 z206 z207 z208 z209 z210 z211 z212 z213 z214 z215 z216 z217 z218 z219 z220 z221 z222 z223 z224 z225 z226 z227 z228 z229 z230 z231 z232 z233 z234 z235 z236 z237 z238 z239 z240 z241 z242 z243 z244 z245 z246 z247 z248 z249 z250 z251 z252 z253 z254 z255 z256 z257 z258 z259 z260 z261 z262 z263 z264 z265 z266 z267 z268 z269 z270 z271 z272 z273 z274 z275 z276 z277 z278 z279 z280 z281 z282 z283 z284 z285 z286 z287 z288 z289 z290 z291 z292 z293 z294 z295 z296 z297 z298 z299 z300 z301 z302 z303 z304 z305 z306 z307 z308 z309 z310 z311 z312 z313 z314 z315 z316 z317 z318 z319 z320 z321 z322 z323 z324 z325 z326 z327 z328 z329 z330 z331 z332 z333 z334 z335 z336 z337 z338 z339 z340 z341 z342 z343 z344 z345 z346 z347 z348 z349 z350 z351 z352 z353 z354 z355 z356 z357 z358 z359 z360 z361 z362 z363 z364 z365 z366 z367 z368 z369 z370 z371 z372 z373 z374 z375 z376 z377 z378 z379 z380 z381 z382 z383 z384 z385 z386 z387 z388 z389 z390 z391 z392 z393 z394 z395 z396 z397 z398 z399 z400 z401 z402 z403 z404 z405 z406 z407 z408 z409 z410 z411 z412 z413 z414 z415 z416 z417 z418 z419 z420 z421 z422 z423 z424 z425 z426 z427 z428 z429 z430 z431 z432 z433 z434 z435 z436 z437 z438 z439 z440 z441 z442 t9 t10 t12 W hR
        have hR2 := hR
        obtain ⟨i2, T2, A2, n2, c2, s2, _, _, _, rfl, _, _, _, _, _, _, hst⟩ := hR2
        have hb9 : ∃ v, W.cell? ⟨g, 9, none⟩ = some v := ⟨_, hst.blk.cellD (i := 9) HLEN2.out⟩
        obtain ⟨v9, hb9⟩ := hb9
        have hf9 := hst.blk.free 9
        have HRR := Lib.hid (wrote_end HNN.out hR HLEN2.out)
        clear hR hst
        go_wp2_with fail
        go_end0
        exact HRR.out
  · go_enter Tryf.func15, Tryf.ntmps15
    have HST : Hid (Rel 0 U L0 w0 g w.heap.size cs (.slice A n c) (.int .i64 0) (.int .i64 0) (w.alloc (.cells #[.int .u8 0, .int .u8 0, .int .u8 0, .int .u8 0] 5))) := Lib.hid (rel_start HSN.out (by omega) (by omega))
    go_upto_block 0 with fail
    refine loopW w0 _ g w.heap.size tb tof N tc n c ta cs U L0 A 0 qt lim asc ni false _ HST.out HNN.out HTX.out HTA.out HAS.out HFE.out HLI.out (fun h => by cases h) hl2 (by rw [HN0.out]; exact HLL.out) HU.out ?_ (fun c a k v W h => h)
    clear HST
    intro z14 z15 z16 z17 z18 z19 z20 z21 z22 z23 z56 z57 z58 z59 z60 z61 z62 z63 z64 z65 z66 z67 z68 z69 z70 z71 z72 z73 z74 z75 z76 z77 z78 z79 z80 z81 z82 z83 z84 z85 z86 z87 z88 z89 z90 z91 z92 z93 z94 z95 z96 z97 z98 z99 z100 z101 z102 z103 z104 z105 z106 z107 z108 z109 z110 z111 z112 z113 z114 z115 z116 z117 z118 z119 z120 z121 z122 z123 z124 z125 z126 z127 z128 z129 z130 z131 z132 z133 z134 z135 z136 z137 z138 z139 z140 z141 z142 z143 z144 z145 z146 z147 z148 z149 z150 z151 z152 z153 z154 z155 z156 z157 z158 z159 z160 z161 z162 z163 z164 z165 z166 z167 z168 z169 z170 z171 z172 z173 z174 z175 z176 z177 z178 z179 z180 z181 z182 z183 z184 z185 z186 z187 z188 z189 z190 z191 z192 z193 z194 z195 z196 z197 z198 z199 z200 z201 z202 z203 z204 z205 z206 z207 z208 z209 z210 z211 z212 z213 z214 z215 z216 z217 z218 z219 z220 z221 z222 z223 z224 z225 z226 z227 z228 z229 z230 z231 z232 z233 z234 z235 z236 z237 z238 z239 z240 z241 z242 z243 z244 z245 z246 z247 z248 z249 z250 z251 z252 z253 z254 z255 z256 z257 z258 z259 z260 z261 z262 z263 z264 z265 z266 z267 z268 z269 z270 z271 z272 z273 z274 z275 z276 z277 z278 z279 z280 z281 z282 z283 z284 z285 z286 z287 z288 z289 z290 z291 z292 z293 z294 z295 z296 z297 z298 z299 z300 z301 z302 z303 z304 z305 z306 z307 z308 z309 z310 z311 z312 z313 z314 z315 z316 z317 z318 z319 z320 z321 z322 z323 z324 z325 z326 z327 z328 z329 z330 z331 z332 z333 z334 z335 z336 z337 z338 z339 z340 z341 z342 z343 z344 z345 z346 z347 z348 z349 z350 z351 z352 z353 z354 z355 z356 z357 z358 z359 z360 z361 z362 z363 z364 z365 z366 z367 z368 z369 z370 z371 z372 z373 z374 z375 z376 z377 z378 z379 z380 z381 z382 z383 z384 z385 z386 z387 z388 z389 z390 z391 z392 z393 z394 z395 z396 z397 z398 z399 z400 z401 z402 z403 z404 z405 z406 z407 z408 z409 z410 z411 z412 z413 z414 z415 z416 z417 z418 z419 z420 z421 z422 z423 z424 z425 z426 z427 z428 z429 z430 z431 z432 z433 z434 z435 z436 z437 z438 z439 z440 z441 z442 t9 t10 t12 W hR
    have hR2 := hR
    obtain ⟨i2, T2, A2, n2, c2, s2, _, _, _, rfl, _, _, _, _, _, _, hst⟩ := hR2
    have hb9 : ∃ v, W.cell? ⟨g, 9, none⟩ = some v := ⟨_, hst.blk.cellD (i := 9) HLEN.out⟩
    obtain ⟨v9, hb9⟩ := hb9
    have hf9 := hst.blk.free 9
    have HRR := Lib.hid (wrote_end HNN.out hR HLEN.out)
    clear hR hst
    go_wp2_with fail
    go_end0
    exact HRR.out
end Go.Proofs.YteoeiklojidgnaaFmt.uw
