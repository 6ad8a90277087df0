/-
  addExportsForExportStar over this seat's program: the files in its stack, those that come.
  Conditions: what Pre says.
-/
import Derived.Test.YtknmcbhcbomjmaaSw
import Derived.Test.YtknmcbhcbomjmaaSi
import Derived.LoopTactic
import Derived.Outline
import Derived.IntWalk
import Derived.Deep.QuietTactic
import Derived.BigQuiet
import Derived.Deep.RegionHeld3
import Derived.Deep.RegionWith
import Derived.Deep.CutBlock
import Derived.Deep.CutRange
import Derived.Deep.DeepCutAuto
import Derived.OwnWalk
import Derived.WalkMore
import Derived.Deep.LoopGhost
namespace Go.Proofs.Ytknmcbhcbomjmaa.xs
open Go.ChangeShapes Go.WideShapes Go.ChangeAt Go.RowKit
open kit mapv
open Go.Maps (Keyed)
open Go.ChangeMaps (setBlock)

section
variable (L : Lay) (s0 : Nat)
set_option maxRecDepth 100000 in
set_option maxHeartbeats 16000000 in
theorem starX (A : Apt L) (w : World) (p : List Nat) (s : Nat) (ad : Option Addr) (cap : Nat) (V : ByteArray → Value) (ρ : ByteArray → Option Ent) (R : Nat) (β : Nat → Nat × Nat → Bool) (bn : Nat → Nat)
    (h : Pre L s0 w p s (.slice ad p.length cap) V ρ R β bn)
    (ih : ∀ (W : World) (t : Nat) (ad2 : Option Addr) (cap2 : Nat) (V2 : ByteArray → Value) (ρ2 : ByteArray → Option Ent) (R2 : Nat) (β2 : Nat → Nat × Nat → Bool) (bn2 : Nat → Nat), s ∉ p → Pre L s0 W (p ++ [s]) t (.slice ad2 (p ++ [s]).length cap2) V2 ρ2 R2 β2 bn2 →
      Calls Try.prog 14 #[.pointer (some ⟨L.cb, 0, none⟩), .map (some L.RES), .int .u32 (t : Int), .slice ad2 (p ++ [s]).length cap2] W (Post L s0 W (p ++ [s]) t (.slice ad2 (p ++ [s]).length cap2) ρ2)) :
    Calls Try.prog 14 #[.pointer (some ⟨L.cb, 0, none⟩), .map (some L.RES), .int .u32 (s : Int), .slice ad p.length cap] w (Post L s0 w p s (.slice ad p.length cap) ρ) := by
  have hr := Row.of_own h.own
  have H := Lib.hid h
  have HR := Lib.hid hr
  have HA := Lib.hid A
  have HIH := Lib.hid ih
  have hpl : p.length ≤ 256 := by have := nodup_le _ _ h.nd h.lt; have := A.top; omega
  clear h hr A ih
  go_enter Try.func14, Try.ntmps14
  go_wp2_with fail
  go_loop [27] (fun t27 => A27 p s t27) (fun t27 => p.length - (intOf t27).toNat)
  case atStart => exact ⟨0, by omega, rfl, fun i hi => absurd hi (by omega)⟩
  case round =>
    obtain ⟨k, hk, rfl, hS⟩ := hrel
    have HS := Lib.hid hS
    clear hS
    by_cases hlt : k < p.length
    · obtain ⟨b, off, rfl, _, x0⟩ := HR.out.at_ 0 hlt
      by_cases he : p.getD k 0 = s
      · have HM := Lib.hid (mem_of_getD hlt he)
        rw [he] at x0
        clear he
        go_wp2_with fail
        go_end0
        exact post_seen H.out HM.out
      · have HN : Hid (∀ i, i < k + 1 → p.getD i 0 ≠ s) := Lib.hid fun i hi => by
          by_cases c : i = k
          · rw [c]; exact he
          · exact HS.out i (by omega)
        generalize p.getD k 0 = y at *
        have hne : ((y : Int) == (s : Int)) = false := by simp; omega
        clear he HS
        go_wp2_with fail
        go_round
        case rel => exact ⟨k + 1, by omega, by go_num, HN.out⟩
        case measure => simp [intOf]; omega
    · obtain rfl : k = p.length := by omega
      have HN := Lib.hid (notMem_of_getD HS.out)
      clear HS
      have HK0 := Lib.hid ((Kept.refl w).alloc (.cells #[.int .u32 (s : Int)] 23))
      have HO0 := Lib.hid (own_kept H.out.own HK0.out)
      have HB0 : Hid (L.B0 ≤ (w.alloc (.cells #[.int .u32 (s : Int)] 23)).heap.size) := Lib.hid (Nat.le_trans H.out.base HK0.out.size)
      have HC0 := Lib.hid (show (w.alloc (.cells #[.int .u32 (s : Int)] 23)).cell? ⟨w.heap.size, 0, none⟩ = some (.int .u32 (s : Int)) from (Blk.new w 23 [.int .u32 (s : Int)]).cell 0)
      go_upto_region 6 with (refine wpList_append_stack _ rfl (.tmp 35) (.tmp 37) rfl L.B0 _ p.length (stkV p) rfl HO0.out HB0.out ⟨w.heap.size, 0, none⟩ 1 (.int .u32 (s : Int)) rfl HC0.out rfl (by omega) ?_; intro ad2 cap2 w1 ho2 ho1 hg1 hb1)
      have HJ := Lib.hid (Lj.start HA.out H.out HK0.out hg1 ho2 ho1)
      have HB := Lib.hid (show (Value.slice ad2 (p.length + 1) cap2).ownBlock = (Value.slice ad p.length cap).ownBlock ∨ ∃ g, (Value.slice ad2 (p.length + 1) cap2).ownBlock = some g ∧ w.heap.size ≤ g by
        rcases hb1 with c | ⟨g, c1, c2⟩
        · exact .inl c
        · exact .inr ⟨g, c1, Nat.le_trans HK0.out.size c2⟩)
      have HB1 : Hid (L.B0 ≤ w1.heap.size) := Lib.hid (Nat.le_trans HB0.out hg1.size)
      have HM1 := Lib.hid (show Mem L w1 from ((H.out.mem.kept HK0.out).grown HA.out hg1 fun k hk => (stk_not53 HO0.out k hk).1))
      clear ho2 ho1 hg1 hb1 HO0 HB0 HC0 HK0 HR
      have hsn := H.out.sn
      have hn := HA.out.top
      have c1 := HM1.out.cell
      have c2 := HM1.out.file hsn
      obtain ⟨_, c4, _, c6, _⟩ := HM1.out.cells hsn
      have hK := HA.out.len s hsn
      have i0 : (0 : Int) ≤ (s : Int) := by omega
      have i1 : (s : Int) < (L.n : Int) := by omega
      have tb : ∀ (x : Nat) (W : World), (Instr.typeAssert (.iface 96 (.pointer (some ⟨x, 0, none⟩))) 118 96 false).run Try.prog W = .ok (.pointer (some ⟨x, 0, none⟩)) W := fun x W => by kernel_rfl
      go_upto_region 8 with fail
      go_loopw [56] (fun t56 W => ∃ j : Nat, j ≤ L.K s ∧ t56 = .int .i64 (j : Int) ∧ Lj L s0 w p s ad cap ad2 cap2 ρ j W) (fun t56 _ => L.K s - (intOf t56).toNat)
      case atStart => exact ⟨0, by omega, rfl, HJ.out⟩
      case round =>
        obtain ⟨j, hj, rfl, hL⟩ := hrel
        have HL := Lib.hid hL
        clear hL HJ HM1 HB1 c1 c2 c4 c6
        by_cases hlt : j < L.K s
        · have h7 : Mem L wr := by
            obtain ⟨V2, ρ2, R2, β2, bn2, h1, h2, h3, h4, h5, h6, h7⟩ := HL.out
            exact h7
          have c1 := h7.cell
          obtain ⟨_, c4, _, c6, _⟩ := h7.cells hsn
          have c7 := h7.index hsn hlt
          have c8 := h7.record hsn hlt
          have HM := Lib.hid h7
          clear h7
          have j0 : (j : Int) < (L.K s : Int) := by omega
          have j1 : (0 : Int) ≤ (j : Int) := by omega
          cases hT : L.T s j with
          | none =>
            rw [hT] at c8
            have HT := Lib.hid hT
            clear hT
            unfold flag at c8
            simp only at c8
            go_wp2_with fail
            go_step3
            go_wp2_with fail
            refine (valid 0 false rfl wr).mono ?_
            rintro e w3 ⟨rfl, k3⟩
            have HN3 := Lib.hid (HL.out.skip HA.out k3 (.inl HT.out))
            clear k3
            go_wp2_with fail
            rw [Exit.noGoto_exit]
            go_wp2_with fail
            go_roundw
            case rel => exact ⟨j + 1, by omega, by go_num, HN3.out⟩
            case measure => simp [intOf]; omega
          | some t =>
            have htn : t < L.n := HA.out.low s j t hsn hlt hT
            rw [hT] at c8
            have HT := Lib.hid hT
            clear hT
            unfold flag at c8
            simp only at c8
            go_wp2_with fail
            go_step3
            go_wp2_with fail
            refine (valid (4294967295 - (t : Int)) true (by simp; omega) wr).mono ?_
            rintro e w3 ⟨rfl, k3⟩
            have c9 := k3.cell c8
            have K3 := Lib.hid k3
            clear k3 c8
            have HG := Lib.hid (fun W => get (4294967295 - (t : Int)) (by omega) (by omega) W)
            have et := Lib.hid (show 4294967295 - (4294967295 - (t : Int)) = (t : Int) by omega)
            generalize 4294967295 - (t : Int) = f at *
            go_wp2_with fail
            refine (HG.out _).mono ?_
            rintro e w4 ⟨rfl, k4⟩
            have K4 := Lib.hid (K3.out.trans k4)
            clear k4 c9 c1 c4 c6 c7 HG K3
            rw [et.out]
            clear et
            have HM4 := Lib.hid (HM.out.kept K4.out)
            have c1 := HM4.out.cell
            have c2 := HM4.out.file htn
            obtain ⟨_, _, c3, _, c5⟩ := HM4.out.cells htn
            have t0 : (0 : Int) ≤ (t : Int) := by omega
            have t1 : (t : Int) < (L.n : Int) := by omega
            cases hc : (L.ek t == 1) with
            | true =>
              have HN4 := Lib.hid (HL.out.skip HA.out K4.out (.inr ⟨t, HT.out, hc⟩))
              go_wp2_with fail
              rw [Exit.noGoto_exit]
              go_wp2_with fail
              go_roundw
              case rel => exact ⟨j + 1, by omega, by go_num, HN4.out⟩
              case measure => simp [intOf]; omega
            | false =>
              have HC : Hid (cjs L t = false) := Lib.hid hc
              go_wp2_with fail
              go_step3
              have HMV := Lib.hid (HM4.out.ne t htn)
              go_wp2_with (at_range; refine wpList_range_map rfl _ 86 rfl K9 Try.underlying86 (L.NB t) (L.sz t) (neV t (L.NE t)) rfl HMV.out ?_; intro w5 hrg hk5 hsz5)
              obtain ⟨V2, ρ2, R2, β2, bn2, h1, h2, h3, h4, h5, h6, h7⟩ := HL.out
              have HC3 := Lib.hid (show CR L s0 wr (p ++ [s]) t w4.heap.size ρ2 (L.sz t) w5 from ⟨_, V2, ρ2, R2, β2, bn2, C3.begin hrg ((h1.kept HA.out K4.out).kept HA.out hk5) h2 (K4.out.trans hk5)⟩)
              have HE := Lib.hid (And.intro h3 (And.intro h4 (And.intro h5 (And.intro h6 h7))))
              obtain ⟨r, hr⟩ : ∃ r, r = w4.heap.size := ⟨_, rfl⟩
              have HRB : Hid (L.B0 ≤ r ∧ wr.heap.size ≤ r) := Lib.hid (by
                have e1 : L.B0 ≤ wr.heap.size := Nat.le_trans H.out.base h4.size
                have e2 := K4.out.size
                omega)
              rw [← hr] at HC3 ⊢
              clear hrg hk5 hsz5 HMV hr h1 h2 h3 h4 h5 h6 h7
              go_frame
              go_loopg [] (L.sz t) (fun g W => CR L s0 wr (p ++ [s]) t r ρ2 g W)
              case atStart => exact HC3.out
              case round =>
                obtain ⟨Lf, V3, ρ3, R3, β3, bn3, hC⟩ := hrel
                obtain ⟨cnt, hcnt⟩ : ∃ cnt, cnt = gk := ⟨_, rfl⟩
                subst hcnt
                have HC3 := Lib.hid hC
                clear hC
                go_upto_region 17 with (at_next; refine wpList_next_map rfl _ rfl K9 (L.NB t) r (L.sz t) (neV t (L.NE t)) Lf cnt Value.string (mkNE t) neV_inv rfl HC3.out.rg ?_ ?_; intro h0 hlf; have HLF := Lib.hid hlf; clear hlf h0; rotate_left; intro x c w6 cnt2 hfx hLx hrg2 hlt2 hgr2 hsz2 hen; have HR0 := Lib.hid (Rnd.start HA.out HC3.out hLx hfx hrg2 hgr2 HRB.out); unfold mkNE at hen; unfold mkNE; have HLT := Lib.hid hlt2; clear hfx hLx hrg2 hlt2 hgr2 hsz2)
                · have K7 := Lib.hid ((Kept.refl w6).alloc (.cells #[.int .u32 (t : Int), .int .u32 (c : Int), .int .i32 0] 98))
                  have HR7 := Lib.hid (HR0.out.kept HA.out K7.out)
                  have B7 := Lib.hid (Blk.new w6 98 [.int .u32 (t : Int), .int .u32 (c : Int), .int .i32 0])
                  cases hdf : (x.toList == [100, 101, 102, 97, 117, 108, 116]) with
                  | true =>
                    have HN := Lib.hid (HR7.out.skip (Pt.no (fun q => q.1 ((dflt_iff x).1 hdf)) _))
                    go_wp2_with fail
                    go_roundg cnt2
                    case rel => exact HN.out
                    case measure => exact HLT.out
                  | false =>
                    have HXD : Hid (x ≠ dflt) := Lib.hid (fun q => by rw [(dflt_iff x).2 q] at hdf; cases hdf)
                    have HM7 := Lib.hid (show Mem L _ from HE.out.2.2.2.2.tn HA.out HR7.out.tn (fun k e => by cases e))
                    have HO7 := Lib.hid (show World.ownsRow _ L.B0 23 1 (.slice ad2 (p.length + 1) cap2) (p.length + 1) (stkV (p ++ [s])) from own_tn HA.out HE.out.2.2.1 HR7.out.tn (fun k _ e => by cases e))
                    obtain ⟨kl, hkl⟩ := (HM7.out.ne t htn).dom ((neV_some t x).2 HR7.out.ex)
                    have HKL := Lib.hid hkl
                    go_upto_region 19 with fail
                    clear hen c1 c2 c3 c5 hkl K7
                    obtain ⟨gn, hgn⟩ : ∃ gn, gn = w6.heap.size := ⟨_, rfl⟩
                    rw [← hgn] at B7 ⊢
                    generalize w6.alloc (.cells #[.int .u32 (t : Int), .int .u32 (c : Int), .int .i32 0] 98) = w7 at *
                    clear hgn
                    have hpl1 : p.length + 1 ≤ 257 := by omega
                    go_wp2_with fail
                    go_loopg [110] (p.length + 1) (fun g t110 W => ∃ k : Nat, k + g = p.length + 1 ∧ t110 = .int .i64 (k : Int) ∧ Kept w7 W ∧ ∀ i, i < k → L.NE ((p ++ [s]).getD i 0) x = none)
                    case atStart => exact ⟨0, by omega, rfl, Kept.refl _, fun i hi => absurd hi (by omega)⟩
                    case round =>
                      obtain ⟨k, hk, rfl, kk, hno⟩ := hrel
                      have KK := Lib.hid kk
                      have HNO := Lib.hid hno
                      clear kk hno
                      by_cases hlt4 : k < p.length + 1
                      · obtain ⟨hy1, hy2⟩ := getD_lt H.out hlt4
                        obtain ⟨b2, off2, rfl, _, x0⟩ := Row.at_ (f := fun (x : Nat) => Value.int .u32 (x : Int)) (show Row _ ad2 (p.length + 1) cap2 ((p ++ [s]).map fun (x : Nat) => Value.int .u32 (x : Int)) from Row.of_own (own_kept HO7.out KK.out)) 0 hlt4
                        have HSUC : Hid (L.NE ((p ++ [s]).getD k 0) x = none → ∀ i, i < k + 1 → L.NE ((p ++ [s]).getD i 0) x = none) := Lib.hid fun q i hi => by
                          by_cases e : i = k
                          · rw [e]; exact q
                          · exact HNO.out i (by omega)
                        generalize (p ++ [s]).getD k 0 = y at *
                        have HY2 := Lib.hid hy2
                        clear hy2
                        have HMk := Lib.hid (HM7.out.kept KK.out)
                        have c1 := HMk.out.cell
                        have c2 := HMk.out.file hy1
                        obtain ⟨_, _, c3, _, _⟩ := HMk.out.cells hy1
                        have y0 : (0 : Int) ≤ (y : Int) := by omega
                        have y1 : (y : Int) < (L.n : Int) := by omega
                        have hz98 : ∀ W : World, (zeroValue 98).run Try.prog W = .ok (.agg #[.int .u32 0, .int .u32 0, .int .i32 0]) W := fun W => by kernel_rfl
                        have hlk := (HMk.out.ne y hy1).look K9 Try.underlying86 (hz98 _) HKL.out true
                        clear hz98
                        cases hy : L.NE y x with
                        | some j2 =>
                          have e1 : neV y (L.NE y) (.string x) = some (mkNE y j2) := by simp [neV, hy, mkNE]
                          rw [e1] at hlk
                          unfold mkNE at hlk
                          simp only [if_true, Option.getD_some, Option.isSome_some] at hlk
                          clear e1
                          have HN := Lib.hid (fun W2 (k2 : Kept w7 W2) => (HR7.out.kept HA.out k2).skip (Pt.no (fun q => q.2.2 y HY2.out (by unfold Exs; rw [hy]; rfl)) _))
                          go_wp2_with fail
                          go_roundg cnt2
                          case rel => exact HN.out _ (KK.out.alloc _)
                          case measure => exact HLT.out
                        | none =>
                          have e1 : neV y (L.NE y) (.string x) = none := by simp [neV, hy]
                          rw [e1] at hlk
                          simp only [if_true, Option.getD_none, Option.isSome_none] at hlk
                          clear e1
                          have HS2 := Lib.hid (HSUC.out hy)
                          go_wp2_with fail
                          go_roundg (gk - 1)
                          case rel => exact ⟨k + 1, by omega, by go_num, KK.out.alloc _, HS2.out⟩
                          case measure => omega
                      · obtain rfl : k = p.length + 1 := by omega
                        have HNX := Lib.hid (none_all (P := p ++ [s]) (by rw [show (p ++ [s]).length = p.length + 1 by simp]; exact HNO.out))
                        clear HNO
                        go_upto_region 26 with fail
                        have HR8 := Lib.hid (HR7.out.kept HA.out KK.out)
                        have B8 := Lib.hid (B7.out.kept KK.out)
                        have HM8 := Lib.hid (HM7.out.kept KK.out)
                        clear KK B7
                        have hz48 : ∀ W : World, (zeroValue 48).run Try.prog W = .ok (.agg #[.slice none 0 0, .int .u32 0, .int .u32 0, .int .i32 0, .int .u32 0]) W := fun W => by kernel_rfl
                        have hlk := HR8.out.st.res.look K9 Try.underlying32 (hz48 _) HKL.out true
                        clear hz48
                        cases hρ : ρ3 x with
                        | none =>
                          have e1 : resV V3 ρ3 (.string x) = none := by simp [resV, hρ]
                          rw [e1] at hlk
                          simp only [if_true, Option.getD_none, Option.isSome_none] at hlk
                          clear e1
                          have HRHO := Lib.hid hρ
                          clear hρ
                          go_upto_region 27 with fail
                          have HR9 := Lib.hid (HR8.out.kept HA.out ((Kept.refl wr).alloc (.cells #[.slice none 0 0, .int .u32 0, .int .u32 0, .int .i32 0, .int .u32 0] 48)))
                          have B9 := Lib.hid (B8.out.alloc (.cells #[.slice none 0 0, .int .u32 0, .int .u32 0, .int .i32 0, .int .u32 0] 48))
                          have HM9 := Lib.hid (HM8.out.kept ((Kept.refl wr).alloc (.cells #[.slice none 0 0, .int .u32 0, .int .u32 0, .int .i32 0, .int .u32 0] 48)))
                          clear hlk
                          generalize wr.alloc (.cells #[.slice none 0 0, .int .u32 0, .int .u32 0, .int .i32 0, .int .u32 0] 48) = w9 at *
                          have x3 := B9.out.cell 0
                          have x4 := B9.out.cell 1
                          have x5 := B9.out.cell 2
                          simp only [List.getElem?_cons_zero, List.getElem?_cons_succ] at x3 x4 x5
                          go_upto_region 29 with (at_mapUpdate; refine mapf.wpList_put rfl _ _ _ 32 rfl K9 Try.underlying32 L.RES R3 (resV V3 ρ3) rfl HR9.out.st.res (.string x) kl rfl HKL.out (resE (.slice none 0 0) t c) rfl ?_; intro w10 hob hm10)
                          obtain ⟨ob, rfl⟩ := hob
                          have hNE := Lib.hid (blk_ne B9.out HR9.out.st.res)
                          have B10 := Lib.hid (show Blk (setBlock w9 L.RES ob) gn 98 _ from (sb_other w9 _ ob hNE.out).trans B9.out)
                          have HM10 := Lib.hid (show Mem L (setBlock w9 L.RES ob) from HM9.out.of_blocks fun b hb _ => sb_other w9 _ ob (HA.out.rd b hb).2.1)
                          obtain ⟨ob2, hrun, hCR⟩ := HR9.out.insert HA.out H.out htn HRHO.out HNX.out HXD.out (in_below H.out.from_ hlt HT.out HC.out) hm10
                          have HCR := Lib.hid hCR
                          clear hCR hm10 x3 x4 x5
                          unfold refK impV at hrun
                          have x1 := (HM10.out.cells hsn).1
                          have x3 := B10.out.cell 0
                          have x4 := B10.out.cell 1
                          simp only [List.getElem?_cons_zero, List.getElem?_cons_succ] at x3 x4
                          generalize setBlock w9 L.RES ob = w10 at *
                          go_region
                          all_goals
                            go_wp2_with fail
                            go_roundg cnt2
                            case rel => first | exact HCR.out | ((repeat apply Exists.intro); exact HCR.out)
                            case measure => exact HLT.out
                        | some e =>
                          have e1 : resV V3 ρ3 (.string x) = some (resE (V3 x) e.src e.j) := by simp [resV, hρ]
                          obtain ⟨av, capv, hV⟩ := amb_form (HR8.out.st.amb x e hρ)
                          rw [e1, hV] at hlk
                          unfold resE at hlk
                          simp only [if_true, Option.getD_some, Option.isSome_some] at hlk
                          have HOW := Lib.hid (HR8.out.st.amb x e hρ)
                          have HV := Lib.hid hV
                          rw [hV] at HOW
                          have HRHO := Lib.hid hρ
                          have HLIM : Hid (e.amb.length ≤ 1000000) := Lib.hid (by
                            have h0 : ρ2 x = some e := by rw [← HR8.out.base]; exact hρ
                            have hb := bud_rec HA.out H.out HN.out hlt HT.out
                            have hb1 := H.out.bud1
                            rcases h1 : ρ x with _ | e0
                            · have := (HE.out.1.new x e h0 h1).2
                              omega
                            · obtain ⟨e2, q1, _, _, q4⟩ := HE.out.1.keep x e0 h1
                              rw [h0] at q1
                              cases q1
                              have := H.out.bud2 x e0 h1
                              omega)
                          clear e1 hV hρ
                          obtain ⟨es, ej, ea⟩ := e
                          dsimp only at hlk HOW HLIM
                          generalize hm : ea.length = m at *
                          have HMM := Lib.hid hm
                          clear hm
                          go_upto_region 30 with fail
                          have K9 := Lib.hid ((Kept.refl wr).alloc (.cells #[.slice av m capv, .int .u32 (es : Int), .int .u32 (ej : Int), .int .i32 0, .int .u32 (es : Int)] 48))
                          have HR9 := Lib.hid (HR8.out.kept HA.out K9.out)
                          have N9 := Lib.hid (B8.out.kept K9.out)
                          have B9 := Lib.hid (Blk.new wr 48 [.slice av m capv, .int .u32 (es : Int), .int .u32 (ej : Int), .int .i32 0, .int .u32 (es : Int)])
                          have HO9 := Lib.hid (own_kept HOW.out K9.out)
                          have HB9 : Hid (L.B0 ≤ wr.heap.size) := Lib.hid (by have e1 := HR8.out.tn.size; have e2 := HRB.out; have e3 := HE.out.2.1.size; have e4 := H.out.base; omega)
                          clear hlk
                          obtain ⟨ge, hge⟩ : ∃ ge, ge = wr.heap.size := ⟨_, rfl⟩
                          rw [← hge] at B9 ⊢
                          have HGE := Lib.hid hge
                          clear hge
                          generalize wr.alloc (.cells #[.slice av m capv, .int .u32 (es : Int), .int .u32 (ej : Int), .int .i32 0, .int .u32 (es : Int)] 48) = w9 at *
                          have y0 := B9.out.cell 0
                          have y4 := B9.out.cell 4
                          simp only [List.getElem?_cons_zero, List.getElem?_cons_succ] at y0 y4
                          by_cases hst : es = t
                          · subst hst
                            have HNQ := Lib.hid (HR9.out.skip (by rw [HRHO.out]; exact Pt.old))
                            go_wp2_with fail
                            go_roundg cnt2
                            case rel => exact HNQ.out
                            case measure => exact HLT.out
                          · have hbne : ((es : Int) == (t : Int)) = false := by simp; omega
                            have HST := Lib.hid hst
                            clear hst
                            go_upto_region 31 with fail
                            have x3 := N9.out.cell 0
                            have x4 := N9.out.cell 1
                            have x5 := N9.out.cell 2
                            simp only [List.getElem?_cons_zero, List.getElem?_cons_succ] at x3 x4 x5
                            have KA := Lib.hid ((Kept.refl w9).alloc (.cells #[.slice none 0 0, .int .i32 0, .int .u32 (t : Int), .int .u32 (c : Int), .int .u32 (t : Int)] 53))
                            have HOA := Lib.hid (own_kept HO9.out KA.out)
                            have HBA : Hid (L.B0 ≤ (w9.alloc (.cells #[.slice none 0 0, .int .i32 0, .int .u32 (t : Int), .int .u32 (c : Int), .int .u32 (t : Int)] 53)).heap.size) := Lib.hid (Nat.le_trans (Nat.le_trans HB9.out (by have := B9.out.lt; have := HGE.out; omega)) KA.out.size)
                            have HNA := Lib.hid (newsL w9 53 (imp t c))
                            have BA := Lib.hid (B9.out.kept KA.out)
                            go_upto_region 32 with (refine wpList_append_amb _ rfl (.tmp 169) (.tmp 176) rfl L.B0 _ m (ambV ea) rfl HOA.out HBA.out ⟨w9.heap.size, 0, none⟩ 1 (imp t c) rfl rfl HNA.out (imp_one t c) HLIM.out ?_; intro g2 cap2' w10 ho hg hb; have HO10 := Lib.hid ho; have HG10 := Lib.hid hg; have HB10 := Lib.hid hb; have B10 := Lib.hid (BA.out.grown hg (fun q => BA.out.notOwned HOA.out (by decide) q.symm)); have q1 := B10.out.cell 0; have q2 := B10.out.free 0; simp only [List.getElem?_cons_zero] at q1; clear ho hg hb)
                            have B11 := Lib.hid (B10.out.set 0 (.slice (some ⟨g2, 0, none⟩) (m + 1) cap2'))
                            have HGO : Hid (g2 ≠ ge) := Lib.hid (fun q => B10.out.notOwned HO10.out (by decide) (by rw [q]; rfl))
                            have HTU := Lib.hid (((Turn.of_kept (K9.out.trans KA.out) (fun k => some k = (Value.slice av m capv).ownBlock)).trans (turn_grown HG10.out)).setNew (p := ⟨ge, 0, none⟩) (by have := HGE.out; show wr.heap.size ≤ ge; omega) (.slice (some ⟨g2, 0, none⟩) (m + 1) cap2'))
                            have HO11 := Lib.hid (own_far HO10.out (p := ⟨ge, 0, none⟩) (u := .slice (some ⟨g2, 0, none⟩) (m + 1) cap2') (by simp [Value.ownBlock]; exact HGO.out))
                            have hpush := HR8.out.push (v2 := .slice (some ⟨g2, 0, none⟩) (m + 1) cap2') HA.out htn hsn HRHO.out HST.out (in_below H.out.from_ hlt HT.out HC.out) HKL.out (by rw [HV.out]; exact HTU.out) (by dsimp only; rw [HMM.out]; exact HO11.out) (by
                              rw [HV.out]
                              rcases HB10.out with q | q
                              · exact .inl q.symm
                              · exact .inr ⟨g2, rfl, Nat.le_trans (Nat.le_trans K9.out.size KA.out.size) q⟩)
                            obtain ⟨ob, hrun, hCR⟩ := hpush
                            have HCR := Lib.hid hCR
                            unfold resE at hrun
                            clear hCR q1 q2 y0 y4 x3 x4 x5 hbne
                            have z0 := B11.out.cell 0
                            have z1 := B11.out.cell 1
                            have z2 := B11.out.cell 2
                            have z3 := B11.out.cell 3
                            have z4 := B11.out.cell 4
                            simp only [List.set_cons_zero, List.getElem?_cons_zero, List.getElem?_cons_succ] at z0 z1 z2 z3 z4
                            generalize w10.setCell ⟨ge, 0, none⟩ (.slice (some ⟨g2, 0, none⟩) (m + 1) cap2') = w11 at *
                            go_wp2_with fail
                            go_roundg cnt2
                            case rel => exact HCR.out
                            case measure => exact HLT.out
                · have HF := Lib.hid (HC3.out.fin HLF.out)
                  have HT3 := Lib.hid (HE.out.2.1.trans HC3.out.tn (fun k _ e => by cases e))
                  have HM3 := Lib.hid (show Mem L _ from HE.out.2.2.2.2.tn HA.out HC3.out.tn (fun k e => by cases e))
                  have HO3 := Lib.hid (show World.ownsRow _ L.B0 23 1 (.slice ad2 (p.length + 1) cap2) (p.length + 1) (stkV (p ++ [s])) from own_tn HA.out HE.out.2.2.1 HC3.out.tn (fun k _ e => by cases e))
                  have HO1 := Lib.hid (show World.ownsRow _ L.B0 23 1 (.slice ad p.length cap) p.length (stkV p) from own_tn HA.out HE.out.2.2.2.1 HC3.out.tn (fun k _ e => by cases e))
                  have HPR := Lib.hid (pre_below HA.out H.out HN.out hlt HT.out HC.out HE.out.1 HF.out HC3.out.st HC3.out.jv HM3.out HO3.out (Nat.le_trans H.out.base HT3.out.size))
                  have HCALL := Lib.hid (HIH.out _ t ad2 cap2 _ _ _ _ _ HN.out HPR.out)
                  rw [show (p ++ [s]).length = p.length + 1 by simp] at HCALL
                  go_wp2_with fail
                  refine (HCALL.out).mono ?_
                  rintro e w8 hp
                  have HPE := Lib.hid hp.1
                  have HNJ := Lib.hid (Lj.go HA.out HE.out.1 HF.out HT.out HC.out HT3.out HB.out HO3.out HO1.out HM3.out (by rw [show (p ++ [s]).length = p.length + 1 by simp]; exact hp))
                  clear hp
                  obtain rfl := HPE.out
                  clear HPE
                  go_wp2_with fail
                  rw [Exit.noGoto_normal]
                  go_wp2_with fail
                  go_roundw
                  case rel => exact ⟨j + 1, by omega, by go_num, HNJ.out⟩
                  case measure => simp [intOf]; omega
        · obtain rfl : j = L.K s := by omega
          have HP := Lib.hid (HL.out.fin HA.out H.out HN.out)
          go_wp2_with fail
          go_end0
          exact HP.out
end
end Go.Proofs.Ytknmcbhcbomjmaa.xs
