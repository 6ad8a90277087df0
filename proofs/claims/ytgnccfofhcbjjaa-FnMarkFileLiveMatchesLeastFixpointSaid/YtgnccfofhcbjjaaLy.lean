/-
  The walk of lkB1ModelLive over this seat's program: its rounds end with everything that is reached marked.
  Conditions: the files are readable, fit and are well formed.
-/
import Derived.Test.YtgnccfofhcbjjaaLx
import Derived.Test.YtgnccfofhcbjjaaLx2
import Derived.Deep.CutBlock
import Derived.Deep.CutRange
namespace Go.Proofs.Ytgnccfofhcbjjaa.lk
open Go.ChangeShapes Go.WideShapes Go.ChangeAt Go.RowKit
open kit dfs dst

set_option maxRecDepth 100000 in
set_option maxHeartbeats 32000000 in
theorem model (w : World) (a : Option Addr) (cc : Nat) (F : Ct) (g : Bool) (s : Nat) (h : FilesC w (.slice a F.length cc) F) (hfit : Fits F) (hs : s < F.length) :
    Calls Try.prog 15 #[.slice a F.length cc, .int .u32 (s : Int), .bool g] w (ModelP w F g s) := by
  have htop := hfit.top
  obtain ⟨C1_, l1, g1, m1⟩ := makeN (T := 70) (E := 4) (size := 1) (bytes := 1) Try.underlying70 (by kernel_rfl) F.length (by omega) (by omega)
  obtain ⟨C2_, l2, g2, m2⟩ := makeN (T := 71) (E := 70) (size := 1) (bytes := 24) Try.underlying71 (by kernel_rfl) F.length (by omega) (by omega)
  have z1 := g1 0 (.bool false) (by omega) (by kernel_rfl)
  simp only [Nat.mul_one, Nat.add_zero] at z1 l1 l2
  have HA0 : Hid (GE w F (.int .i64 0) ((w.alloc (.cells C1_.toArray 4)).alloc (.cells C2_.toArray 70))) := Lib.hid ⟨0, fun _ => 0, Nat.zero_le _, rfl, ((Kept.refl _).alloc _).alloc _, (Bools.made w l1 z1).kept ((Kept.refl _).alloc _),
    ⟨C2_, by have := Blk.new (w.alloc (.cells C1_.toArray 4)) 70 C2_; simpa using this, l2, fun i hi => absurd hi (by omega)⟩, fun i hi => absurd hi (by omega), fun i j hi => absurd hi (by omega)⟩
  have HF := Lib.hid h
  have HFIT := Lib.hid hfit
  have HLENS := Lib.hid hfit.lens
  have s0 : (s : Int) < (F.length : Int) := by omega
  clear h hfit g1 g2 z1 l1 l2
  go_enter Try.func15, Try.ntmps15
  go_upto_region 5 with fail
  clear m1 m2
  generalize (w.alloc (.cells C1_.toArray 4)).alloc (.cells C2_.toArray 70) = wa at *
  go_loopw [11] (fun t11 W => GE w F t11 W) (fun t11 _ => F.length - (intOf t11).toNat)
  case atStart => exact HA0.out
  case round =>
    obtain ⟨k, G, hk, rfl, hE⟩ := hrel
    have HE := Lib.hid hE
    clear hE HA0
    by_cases hlt : k < F.length
    · obtain ⟨b, off, rfl, hb, ra, rc, pa, pc, _, _, _, _, c4, _, _, ⟨hp1, hp2, _⟩, _, _⟩ := HF.out.at_ hlt
      have d0 := HE.out.kept.cell c4
      have k0 : (k : Int) < (F.length : Int) := by omega
      have hnp : np F k ≤ 262144 := (HLENS.out k hlt).2.1
      have hnp2 : (fl F k).parts.length = np F k := rfl
      rw [hnp2] at d0 hp1
      obtain ⟨C3_, l3, g3, m3⟩ := makeN (T := 70) (E := 4) (size := 1) (bytes := 1) Try.underlying70 (by kernel_rfl) (np F k) (by omega) (by omega)
      have z3 := g3 0 (.bool false) (by omega) (by kernel_rfl)
      simp only [Nat.mul_one, Nat.add_zero] at z3 l3
      have HN := Lib.hid (HE.out.step hlt l3 z3)
      obtain ⟨cs, hb2, hl2, _⟩ := HE.out.rows
      obtain ⟨v, y1, y2⟩ := (hb2.alloc (.cells C3_.toArray 4)).has (i := k) (by omega)
      clear c4 hnp2 g3 z3 l3 hb2 hl2
      generalize np F k = m at *
      go_wp2_with fail
      go_roundw
      case rel => exact ⟨k + 1, _, by omega, by go_num, HN.out⟩
      case measure => simp [intOf]; omega
    · obtain rfl : k = F.length := by omega
      obtain ⟨hM0, hG0⟩ := HE.out.fin
      have HLO := Lib.hid hG0
      have HK0 := Lib.hid HE.out.kept
      obtain ⟨x1, x2⟩ := hM0.cellF hs
      have HA1 : Hid (A1 w w.heap.size (w.heap.size + 1) G F g (.inl s) (.bool true) (wr.setCell ⟨w.heap.size, s, none⟩ (.bool true))) := Lib.hid ⟨_, true, rfl, fun x hx => by
        have : x = .inl s := upd_only (d := fun _ => false) rfl hx
        rw [this]; exact .start, upd_same _ _ _, hM0.setF hs, HE.out.kept.setCell (Nat.le_refl _) _, fun hc => by cases hc⟩
      clear HE hM0 hG0
      go_upto_region 10 with fail
      clear x1 x2
      generalize wr.setCell ⟨w.heap.size, s, none⟩ (.bool true) = wb at *
      have HQ1 := Lib.hid (show w.heap.size ≤ w.heap.size from Nat.le_refl _)
      generalize hq2 : w.heap.size + 1 = q2 at *
      have HQ2 := Lib.hid hq2
      clear hq2
      generalize hq1 : w.heap.size = q1 at *
      have HQ3 := Lib.hid hq1
      clear hq1
      go_loopw [12] (fun t12 W => A1 w q1 q2 G F g (.inl s) t12 W) (fun t12 W => free (univ F) (Rof W q1 G) + chN t12)
      case atStart => exact HA1.out
      case round =>
        obtain ⟨R0, ch, rfl, hsnd, hseed, hM, hK, hcl⟩ := hrel
        obtain ⟨wo, rfl⟩ : ∃ wo : World, wo = wr := ⟨_, rfl⟩
        have HM := Lib.hid hM
        have HK := Lib.hid hK
        have HCL := Lib.hid hcl
        have HS0 : Hid (B1 w q1 q2 G F g (.inl s) R0 (.int .i64 0) (.bool false) wo) := Lib.hid ⟨0, R0, false, Nat.zero_le _, rfl, rfl, ⟨hsnd, hseed, fun _ => rfl, fun hc => (by cases hc), fun _ x t hd => hd.none⟩, hM, hK⟩
        have HFR := Lib.hid hM.of
        clear hsnd hseed hM hK hcl HA1
        cases ch
        · have HX := Lib.hid (HCL.out rfl)
          clear HCL HS0 HFR
          go_wp2_with fail
          go_ret2
          obtain rfl := HQ2.out
          obtain rfl := HQ3.out
          exact ⟨rfl, G, R0, HM.out, HX.out, HK.out⟩
        · clear HCL HM HK
          go_upto_region 13 with fail
          go_loopw [13, 12] (fun t13 t12 W => B1 w q1 q2 G F g (.inl s) R0 t13 t12 W) (fun t13 _ _ => F.length - (intOf t13).toNat)
          case atStart => exact HS0.out
          case round =>
            obtain ⟨i, R1, c1, hi, rfl, rfl, hMs⟩ := hrel
            have HMs := Lib.hid hMs
            obtain ⟨wi, rfl⟩ : ∃ wi : World, wi = wr := ⟨_, rfl⟩
            clear hMs HS0
            by_cases hlt : i < F.length
            · obtain ⟨b, off, rfl, hb, ra, rc, pa, pc, c0, c1_, c2, c3, c4, hcss, ⟨hr1, hr2, hr3⟩, ⟨hp1, hp2, hp3⟩, hRC, hPC⟩ := HF.out.at_ hlt
              have d0 := HMs.out.kept.cell c0
              have d1 := HMs.out.kept.cell c1_
              have d2 := HMs.out.kept.cell c2
              have d3 := HMs.out.kept.cell c3
              have d4 := HMs.out.kept.cell c4
              have HRC := Lib.hid hRC
              have HPC := Lib.hid hPC
              have k0 : (i : Int) < (F.length : Int) := by omega
              have hnp : np F i ≤ 262144 := (HLENS.out i hlt).2.1
              have hnr : (fl F i).recs.length ≤ 262144 := (HLENS.out i hlt).1
              have HOK := Lib.hid (HFIT.out.ok i hlt)
              have hnp2 : (fl F i).parts.length = np F i := rfl
              rw [hnp2] at d4 hp1 hp3
              have HNP := Lib.hid hnp2
              clear c0 c1_ c2 c3 c4 hRC hPC hnp2
              go_upto_region 16 with fail
              clear d0 d1 d2 d3 d4
              have HKA := Lib.hid ((Kept.refl wi).alloc (.cells #[.int .i32 (fl F i).css, .bool (fl F i).side, .bool (fl F i).live, .slice ra (fl F i).recs.length rc, .slice pa (np F i) pc] 66))
              have HBX := Lib.hid (Blk.new wi 66 [.int .i32 (fl F i).css, .bool (fl F i).side, .bool (fl F i).live, .slice ra (fl F i).recs.length rc, .slice pa (np F i) pc])
              obtain ⟨BX, hBX⟩ : ∃ BX : List Value, BX = [.int .i32 (fl F i).css, .bool (fl F i).side, .bool (fl F i).live, .slice ra (fl F i).recs.length rc, .slice pa (np F i) pc] := ⟨_, rfl⟩
              rw [← hBX] at HBX
              have HBXE := Lib.hid hBX
              have e0 : BX.toArray = #[.int .i32 (fl F i).css, .bool (fl F i).side, .bool (fl F i).live, .slice ra (fl F i).recs.length rc, .slice pa (np F i) pc] := by rw [hBX]
              rw [e0] at HBX
              clear hBX e0
              have HBX : Hid (Blk (wi.alloc (.cells #[.int .i32 (fl F i).css, .bool (fl F i).side, .bool (fl F i).live, .slice ra (fl F i).recs.length rc, .slice pa (np F i) pc] 66)) wi.heap.size 66 BX) := HBX
              generalize wi.alloc (.cells #[.int .i32 (fl F i).css, .bool (fl F i).side, .bool (fl F i).live, .slice ra (fl F i).recs.length rc, .slice pa (np F i) pc] 66) = w4 at *
              generalize wi.heap.size = bf at *
              have HM4 := Lib.hid (HMs.out.kept2 HKA.out)
              obtain ⟨rl, hrl⟩ : ∃ rl, rl = R1 (.inl i) := ⟨_, rfl⟩
              have x1 := (HM4.out.mks.cellF hlt).1
              rw [← hrl] at x1
              have HRL := Lib.hid hrl
              clear hrl HMs HKA
              go_upto_if 61 with (fail)
              clear x1
              go_cut [12] (fun t12 W => Hid (PX w q1 q2 G F g (.inl s) R0 bf BX (DP F g i 0) t12 W))
              case first => as_aux_lemma =>
                cases rl
                · have HR : Hid (PX w q1 q2 G F g (.inl s) R0 bf BX (DP F g i 0) (.bool c1) w4) := Lib.hid ⟨R1, c1, rfl, HM4.out.weak (fun x t hd => DP.dead HRL.out.symm hd), HBX.out⟩
                  clear HRL HM4 HBX
                  go_wp2_with fail
                  go_meet
                  exact HR
                · have y0 : w4.cell? ⟨bf, 0, none⟩ = some (.int .i32 (fl F i).css) := by rw [HBX.out.cell, HBXE.out]; rfl
                  obtain ⟨bx, hbx⟩ : ∃ bx, bx = (decide (0 ≤ (fl F i).css) && !R1 (.inl (fl F i).css.toNat)) := ⟨_, rfl⟩
                  have HBQ := Lib.hid hbx
                  clear hbx
                  go_upto_region 17 with fail
                  go_cut [72] (fun t72 W => t72 = .bool bx ∧ W = w4)
                  case first =>
                    by_cases h0 : 0 ≤ (fl F i).css
                    · obtain ⟨c, hcc⟩ := Int.eq_ofNat_of_zero_le h0
                      have hcl : c < F.length := by have := HOK.out.css.2; omega
                      have y1 := (HM4.out.mks.cellF hcl).1
                      have hb : bx = !R1 (.inl c) := by rw [HBQ.out, hcc]; simp
                      rw [hcc] at y0
                      have q0 : (0 : Int) ≤ (c : Int) := by omega
                      have q1_ : (c : Int) < (F.length : Int) := by omega
                      generalize R1 (.inl c) = rc_ at *
                      subst hb
                      clear h0 hcc HBQ
                      go_wp2_with fail
                      go_meet
                      exact ⟨rfl, rfl⟩
                    · have hb : bx = false := by rw [HBQ.out]; simp [h0]
                      subst hb
                      clear HBQ
                      go_wp2_with fail
                      go_meet
                      exact ⟨rfl, rfl⟩
                  case rest =>
                    obtain ⟨rfl, rfl⟩ := hcut
                    go_upto_if 72 with (fail)
                    go_cut [12] (fun t12 W => Hid (CX w q1 q2 G F g (.inl s) R0 i bf BX (DJ F g i 0 0) t12 W))
                    case first =>
                      cases bx
                      · have HR : Hid (CX w q1 q2 G F g (.inl s) R0 i bf BX (DJ F g i 0 0) (.bool c1) wc) := Lib.hid ⟨R1, c1, rfl, HM4.out.weak (fun x t hd => DJ.css (fun v hv => by
                          unfold cssSucc at hv
                          have hq := HBQ.out
                          split at hv
                          · rename_i h0
                            rw [List.mem_singleton.1 hv]
                            simpa [h0] using hq
                          · cases hv) hd), HRL.out.symm, HBX.out⟩
                        clear HRL HBQ
                        go_wp2_with fail
                        go_meet
                        exact HR
                      · have hq := HBQ.out
                        have h0 : 0 ≤ (fl F i).css := by
                          apply Classical.byContradiction
                          intro hn
                          rw [show decide (0 ≤ (fl F i).css) = false by simpa using hn] at hq
                          cases hq
                        obtain ⟨c, hcc⟩ := Int.eq_ofNat_of_zero_le h0
                        have hcl : c < F.length := by have := HOK.out.css.2; omega
                        have hrc : R1 (.inl c) = false := by rw [hcc] at hq; simpa using hq
                        have hmem : (.inl c : Nd) ∈ succ F g (.inl i) := by have := mem_css (g := g) h0; rw [hcc] at this; exact this
                        obtain ⟨y1, y2⟩ := HM4.out.mks.cellF hcl
                        have HR : Hid (CX w q1 q2 G F g (.inl s) R0 i bf BX (DJ F g i 0 0) (.bool true) (wc.setCell ⟨q1, c, none⟩ (.bool true))) := Lib.hid ⟨_, true, rfl, HM4.out.markF HFIT.out hs (by rw [← HQ3.out]; exact Nat.le_refl _) HRL.out.symm hmem hrc hcl _, upd_up HRL.out.symm, HBX.out.far (p := ⟨q1, c, none⟩) (HBX.out.apart HM4.out.mks.fl (by decide)) _⟩
                        rw [hcc] at y0
                        have q0 : (0 : Int) ≤ (c : Int) := by omega
                        have q1_ : (c : Int) < (F.length : Int) := by omega
                        clear hq h0 hcc hrc hmem HRL HBQ
                        go_wp2_with fail
                        go_meet
                        exact HR
                    case rest =>
                      obtain ⟨R2, c2, rfl, hM2, hl2, hb2⟩ := hcut.out
                      have HC0 : Hid (C1 w q1 q2 G F g (.inl s) R0 i bf BX (.int .i64 0) (.bool c2) wc) := Lib.hid ⟨0, Nat.zero_le _, rfl, R2, c2, rfl, hM2, hl2, hb2⟩
                      clear hcut hM2 hl2 hb2 HM4 HBX HRL HBQ y0
                      go_upto_block 6 with fail
                      refine loopC w wc q1 q2 G F g s R0 b off cc i bf BX c2 _ HF.out HFIT.out hs (by rw [HQ3.out]; exact Nat.le_refl _) (by rw [HQ3.out]; exact HLO.out) hlt ra pa rc pc HBXE.out HRC.out hr1 hr2 hr3 HPC.out hp1 hp2 hp3 HC0.out ?_
                      clear HC0
                      intro z15 z16 z17 z18 z19 z77 z78 z79 z80 z81 z82 z83 z84 z85 z86 z87 z88 z89 z90 z91 z92 z93 z94 z95 z96 z97 z98 z99 z100 z101 z102 z103 z104 z105 z106 z107 z108 z109 z110 z111 z112 z113 z114 z115 z116 z117 z118 z119 z120 z121 z122 z123 z124 z125 z126 z127 z128 z129 z130 z131 z132 z133 z134 z135 z136 z137 z138 z139 z140 z141 z142 z143 z144 z145 z146 z147 z148 z149 z150 z151 z152 t12 W hR
                      have HR := Lib.hid hR
                      clear hR
                      go_wp2_with fail
                      go_meet
                      exact HR
              case rest =>
                obtain ⟨R2, c2, rfl, hM2, hb2⟩ := hcut.out
                have HP0 : Hid (P1 w q1 q2 G F g (.inl s) R0 i bf BX (.int .i64 0) (.bool c2) wc) := Lib.hid ⟨0, Nat.zero_le _, rfl, R2, c2, rfl, hM2, hb2⟩
                clear hcut hM2 hb2 HM4 HBX HRL
                go_upto_block 10 with fail
                refine loopP w wc q1 q2 G F g s R0 b off cc i bf BX c2 _ HF.out HFIT.out hs (by rw [HQ3.out]; exact Nat.le_refl _) (by rw [HQ3.out]; exact HLO.out) hlt ra pa rc pc HBXE.out HPC.out hp1 hp2 hp3 HP0.out ?_
                clear HP0
                intro z20 z21 z22 z23 z153 z154 z155 z156 z157 z158 z159 z160 z161 z162 z163 z164 z165 z166 z167 z168 z169 z170 z171 z172 z173 z174 z175 z176 z177 z178 z179 z180 z181 z182 z183 z184 z185 z186 z187 z188 z189 z190 z191 z192 z193 z194 z195 z196 z197 z198 z199 z200 z201 z202 z203 z204 z205 z206 z207 z208 z209 z210 t12 W hR
                have HR := Lib.hid hR
                clear hR
                go_wp2_with fail
                go_roundw
                case rel => exact HR.out
                case measure => simp [intOf]; omega
            · obtain rfl : i = F.length := by omega
              have HR : Hid (A1 w q1 q2 G F g (.inl s) (.bool c1) wi) := Lib.hid ⟨R1, c1, rfl, HMs.out.st.sound, HMs.out.st.seed, HMs.out.mks, HMs.out.kept, fun hc => by
                subst hc
                exact St.fin (HMs.out.st.weak (fun x t hd => .inl (DI.all hd))) HFIT.out hs⟩
              have HME : Hid (free (univ F) (Rof wi q1 G) + chN (.bool c1) < free (univ F) (Rof wo q1 G) + chN (.bool true)) := Lib.hid (by
                rw [HFR.out, HMs.out.mks.of]
                show _ < _ + 1
                cases hc : c1
                · rw [HMs.out.st.same hc]; show _ + 0 < _; omega
                · have := HMs.out.st.less hc; show _ + 1 < _; omega)
              clear HMs HFR
              go_wp2_with fail
              go_roundw
              case rel => exact HR.out
              case measure => exact HME.out
end Go.Proofs.Ytgnccfofhcbjjaa.lk
