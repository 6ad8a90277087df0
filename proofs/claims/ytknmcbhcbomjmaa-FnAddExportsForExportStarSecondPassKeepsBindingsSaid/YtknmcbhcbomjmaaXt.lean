/-
  The second law's function over this seat's program.
  Conditions: the files are readable.
-/
import Derived.Test.YtknmcbhcbomjmaaXs
import Derived.Test.YtknmcbhcbomjmaaXf
import Derived.BigRegion
import Derived.LoopTactic
import Derived.Outline
import Derived.IntWalk
import Derived.Deep.QuietTactic
import Derived.BigQuiet
import Derived.Deep.RegionHeld3
import Derived.Deep.RegionWith
import Derived.Deep.CutBlock
import Derived.Deep.CutRange
import Derived.Deep.DeepCutAuto
import Derived.OwnWalk
import Derived.WalkMore
import Derived.Deep.LoopGhost
namespace Go.Proofs.Ytknmcbhcbomjmaa.xs
open Go.ChangeShapes Go.WideShapes Go.ChangeAt Go.RowKit
open kit
open Go.Maps (Keyed)
open Go.ChangeMaps (setBlock)

theorem infoS : (Try.prog.info? 9).map (fun i => (i.zero, i.size, i.bytes)) = some (some (.string ByteArray.empty), 1, 16) := by kernel_rfl
theorem infoB : (Try.prog.info? 4).map (fun i => (i.zero, i.size, i.bytes)) = some (some (.bool false), 1, 1) := by kernel_rfl
theorem infoR : (Try.prog.info? 44).map (fun i => (i.zero, i.size, i.bytes)) = some (some (.agg #[.int .u32 0, .int .u32 0]), 2, 8) := by kernel_rfl
theorem infoU : (Try.prog.info? 23).map (fun i => (i.zero, i.size, i.bytes)) = some (some (.int .u32 0), 1, 4) := by kernel_rfl
theorem mapF_len {P : Program} {k t e : TypeId} {w : World} {b n : Nat} {f : Value → Option Value} (h : mapf.MapF P k w b n f) (ht : P.underlying t = some (.map k e)) (ty : TypeId) : (Builtin.len_ #[t] ty #[.map (some b)]).run P w = .ok (.int .i64 n) w := by
  obtain ⟨es, c, hb, h1, _⟩ := h
  simp [Builtin.len_, run_underlying ht, MapKept.run_getObj_map hb, goInt, Result.andThen, h1]
def LawTrue (w : World) (e : Ending) (w' : World) : Prop := e = .returned (.bool true) ∧ Kept w w'
def T14 (w3 : World) (fs : List EF) (n : Nat) (ρ : ByteArray → Option Ent) (t10 t11 t12 t13 t14 : Value) (W : World) : Prop := ∃ (v : Nat) (ls : List ByteArray), v ≤ n ∧ t14 = .int .i64 (v : Int) ∧ Four w3 W ρ ls ls ls ls t10 t11 t12 t13 ∧ ls.length ≤ nm fs v ∧ ∀ a ∈ ls, a.size ≤ maxLen
def T15 (w3 : World) (fs : List EF) (v : Nat) (ρ : ByteArray → Option Ent) (t10 t11 t12 t13 t15 : Value) (W : World) : Prop := ∃ (j : Nat) (ls : List ByteArray), j ≤ (exF fs v).length ∧ t15 = .int .i64 (j : Int) ∧ Four w3 W ρ ls ls ls ls t10 t11 t12 t13 ∧ ls.length ≤ nm fs v + j ∧ ∀ a ∈ ls, a.size ≤ maxLen

set_option maxRecDepth 1000000 in
set_option maxHeartbeats 64000000 in
theorem law2 (w : World) (a : Option Addr) (n c : Nat) (fs : List EF) (s0 : Int) (h : Fs w a n fs) (hnc : n ≤ maxLen) (hs : 0 ≤ s0) :
    Calls Try.prog 4 #[.slice a n c, .int .u32 s0] w (LawTrue w) := by
  have HF := Lib.hid h
  have HNC := Lib.hid hnc
  have hm : n ≤ 9223372036854775807 := by unfold maxLen at hnc; exact hnc
  clear h hnc
  go_enter Try.func4, Try.ntmps4
  go_wp2_with fail
  refine (bytes11 w a n c s0 fs HF.out HNC.out).mono ?_
  rintro e w' ⟨⟨b0, rfl, hb0⟩, rfl⟩
  cases b0
  · clear hb0
    go_wp2_with fail
    go_ret
    exact ⟨rfl, Kept.refl _⟩
  · have hn := (hb0 rfl).1
    have HS := Lib.hid (hb0 rfl).2
    clear hb0
    go_wp2_with fail
    refine (fits w a n c fs HF.out hn HS.out).mono ?_
    rintro e w' ⟨⟨b0, rfl, hb0⟩, rfl⟩
    cases b0
    · clear hb0
      go_wp2_with fail
      go_ret
      exact ⟨rfl, Kept.refl _⟩
    · have HFit : Hid (Fit n fs) := Lib.hid (hb0 rfl)
      have hn2 := HFit.out.top
      clear hb0
      have W32 : IntKind.u32.wrap (n : Int) = (n : Int) := by rw [IntKind.wrap_u32]; omega
      by_cases hsn : s0 < (n : Int)
      · obtain ⟨s, rfl⟩ := Int.eq_ofNat_of_zero_le hs
        have hv : s < n := by omega
        obtain ⟨b, off, rfl, _, _⟩ := HF.out.2.1 (by omega)
        go_wp2_with fail
        refine (build w _ n c fs HF.out HFit.out).mono ?_
        rintro e w1 ⟨rfl, q, hB⟩
        have HB := Lib.hid hB
        clear hB
        go_wp2_with fail
        refine (newCtx w1 (w.heap.size + 1) n).mono ?_
        rintro e w2 ⟨cb, cs, rfl, hcb, hc10, hcs, k2⟩
        obtain ⟨sz, hapt, hpre⟩ := begins HB.out HF.out HFit.out hv k2 hcb hc10
        have HAP := Lib.hid hapt
        have HPR := Lib.hid hpre
        have K2 := Lib.hid k2
        have hmm : (Instr.makeMap 32 none).run Try.prog w2 = .ok (.map (some w2.heap.size)) (w2.alloc (.map #[] 0)) := rfl
        clear hcb hc10 hcs k2 hapt hpre
        have HD := Lib.hid (door (layOf w w2 cb n q fs sz) s HAP.out _ _ _ _ _ _ HPR.out)
        go_wp2_with fail
        refine (HD.out).mono ?_
        intro e w3 hP
        obtain ⟨rfl, hr3, V, ρ, R, β, bn, hL⟩ := leaves HB.out HFit.out K2.out HAP.out HPR.out hP
        have HD2 : Hid (∀ W : World, Kept w3 W → Calls Try.prog 9 #[.pointer (some ⟨cb, 0, none⟩), .map (some w2.heap.size), .int .u32 (s : Int), .slice none 0 0] W (Post (layOf w w2 cb n q fs sz) s W [] s (.slice none 0 0) ρ)) := Lib.hid (fun W k => door (layOf w w2 cb n q fs sz) s HAP.out W V ρ R β bn (hL.again HAP.out HFit.out hv k))
        have HKT := Lib.hid (fun (W W2 : World) (kw : Kept w W) (tn : Tn (layOf w w2 cb n q fs sz) none W W2) => again_kept HB.out K2.out kw tn)
        have HA := Lib.hid (hL.aft HF.out HFit.out hv hr3)
        have HVE := Lib.hid (fun a => vE_form hL.st a)
        have HIS := Lib.hid hL.is
        have HK03 := Lib.hid hL.kept
        have HBA : Hid (Lay.B0 (layOf w w2 cb n q fs sz) ≤ w3.heap.size) := Lib.hid hL.base
        clear hL hP HD hmm HPR HB K2 HS hr3
        have HT0 : Hid (T14 w3 fs n ρ (.slice none 0 0) (.slice none 0 0) (.slice none 0 0) (.slice none 0 0) (.int .i64 0) w3) := Lib.hid ⟨0, [], Nat.zero_le _, rfl, Four.start w3 ρ, Nat.zero_le _, fun a ha => (by cases ha)⟩
        obtain ⟨iS, hS0, hS1, hS2, hS3⟩ := info_parts infoS
        obtain ⟨iB, hB0, hB1, hB2, hB3⟩ := info_parts infoB
        obtain ⟨iR, hR0, hR1, hR2, hR3⟩ := info_parts infoR
        obtain ⟨iU, hU0, hU1, hU2, hU3⟩ := info_parts infoU
        go_wp2_with fail
        as_aux_lemma =>
          go_loopw [10, 11, 12, 13, 14] (fun t10 t11 t12 t13 t14 W => T14 w3 fs n ρ t10 t11 t12 t13 t14 W) (fun _ _ _ _ t14 _ => n - (intOf t14).toNat)
          case atStart => exact HT0.out
          case round =>
            obtain ⟨v, ls, hv2, rfl, hF4, hl4, hs4⟩ := hrel
            obtain ⟨⟨a10, c10, rfl⟩, _⟩ := id hF4.nm
            obtain ⟨⟨a11, c11, rfl⟩, _⟩ := id hF4.pr
            obtain ⟨⟨a12, c12, rfl⟩, _⟩ := id hF4.rf
            obtain ⟨⟨a13, c13, rfl⟩, _⟩ := id hF4.sr
            have HF4 := Lib.hid hF4
            have HL4 := Lib.hid hl4
            have HS4 := Lib.hid hs4
            clear hF4 hl4 hs4 HT0
            by_cases hlt : v < n
            · have HT1 : Hid (T15 w3 fs v ρ (.slice a10 ls.length c10) (.slice a11 ls.length c11) (.slice a12 ls.length c12) (.slice a13 ls.length c13) (.int .i64 0) wr) := Lib.hid ⟨0, ls, Nat.zero_le _, rfl, HF4.out, HL4.out, HS4.out⟩
              clear HF4 HL4 HS4
              go_wp2_with fail
              go_loopw [10, 11, 12, 13, 15] (fun t10 t11 t12 t13 t15 W => T15 w3 fs v ρ t10 t11 t12 t13 t15 W) (fun _ _ _ _ t15 _ => (exF fs v).length - (intOf t15).toNat)
              case atStart => exact HT1.out
              case round =>
                obtain ⟨j, l2, hj, rfl, hF5, hl5, hs5⟩ := hrel
                obtain ⟨⟨a10, c10, rfl⟩, _⟩ := id hF5.nm
                obtain ⟨⟨a11, c11, rfl⟩, _⟩ := id hF5.pr
                obtain ⟨⟨a12, c12, rfl⟩, _⟩ := id hF5.rf
                obtain ⟨⟨a13, c13, rfl⟩, _⟩ := id hF5.sr
                have HF5 := Lib.hid hF5
                have HL5 := Lib.hid hl5
                have HS5 := Lib.hid hs5
                clear hF5 hl5 hs5 HT1
                obtain ⟨_, c1, _, hr, _⟩ := HA.out.files v hlt
                have x1 := HF5.out.kept.cell c1
                have hex := HA.out.fit.ex hlt
                have hl2 : l2.length ≤ 8192 := by
                  have h1 := HL5.out
                  have h2 := nm_mono fs (show v ≤ n by omega)
                  have h3 := HA.out.fit.names
                  omega
                have hlx : (fs.getD v default).ex.length = (exF fs v).length := rfl
                rw [hlx] at x1 hr
                have HR := Lib.hid (hr.kept HF5.out.kept)
                clear c1 hr hlx
                by_cases hlt2 : j < (exF fs v).length
                · have hrow : Row wr (fs.getD v default).a (exF fs v).length (fs.getD v default).c ((exF fs v).map Value.string) := HR.out
                  obtain ⟨b2, o2, e2, _, x2⟩ := hrow.at_ ByteArray.empty hlt2
                  rw [e2] at x1
                  have hmem : (exF fs v).getD j ByteArray.empty ∈ exF fs v := by
                    rw [List.getD_eq_getElem?_getD, List.getElem?_eq_getElem hlt2]; exact List.getElem_mem _
                  have HXS := Lib.hid (HA.out.str v hlt _ hmem)
                  generalize (exF fs v).getD j ByteArray.empty = xa at *
                  have HKL := Lib.hid (WideMaps.keyOf_string_mk (P := Try.prog) Try.underlying9 HXS.out)
                  have j2 : (j : Int) < ((exF fs v).length : Int) := by omega
                  have hz48 : ∀ W : World, (zeroValue 48).run Try.prog W = .ok (.agg #[.slice none 0 0, .int .u32 0, .int .u32 0, .int .i32 0, .int .u32 0]) W := fun W => by kernel_rfl
                  have hlr := (HA.out.res.kept HF5.out.kept).look K9 Try.underlying32 (hz48 _) HKL.out true
                  rw [look_e, resV_is] at hlr
                  simp only [if_true] at hlr
                  obtain ⟨ad, nn, cap, hvE⟩ := HVE.out xa
                  rw [hvE] at hlr
                  obtain ⟨e1, he1⟩ : ∃ x, x = (eV ρ xa).1 := ⟨_, rfl⟩
                  obtain ⟨e2', he2⟩ : ∃ x, x = (eV ρ xa).2 := ⟨_, rfl⟩
                  obtain ⟨ok, hok⟩ : ∃ x, x = (ρ xa).isSome := ⟨_, rfl⟩
                  rw [← he1, ← he2, ← hok] at hlr
                  have HE := Lib.hid (And.intro he1 (And.intro he2 hok))
                  generalize (fs.getD v default).c = cx at *
                  obtain ⟨m, hm⟩ : ∃ m, m = (exF fs v).length := ⟨_, rfl⟩
                  rw [← hm] at x1 j2
                  clear hrow hmem HR e2 hvE hz48 he1 he2 hok
                  go_upto_region 24 with fail
                  have HB5 := Lib.hid (Blk.new wr 48 [.slice ad nn cap, .int .u32 (e1 : Int), .int .u32 (e2' : Int), .int .i32 0, .int .u32 (e1 : Int)])
                  have HG5 := Lib.hid (HF5.out.kept2 ((Kept.refl wr).alloc (.cells #[.slice ad nn cap, .int .u32 (e1 : Int), .int .u32 (e2' : Int), .int .i32 0, .int .u32 (e1 : Int)] 48)))
                  have HZ5 : Hid (w3.heap.size ≤ (wr.alloc (.cells #[.slice ad nn cap, .int .u32 (e1 : Int), .int .u32 (e2' : Int), .int .i32 0, .int .u32 (e1 : Int)] 48)).heap.size) := Lib.hid HG5.out.kept.size
                  clear hlr x1 x2 HF5
                  simp only [List.toArray] at HB5
                  generalize wr.alloc (.cells #[.slice ad nn cap, .int .u32 (e1 : Int), .int .u32 (e2' : Int), .int .i32 0, .int .u32 (e1 : Int)] 48) = w5 at *
                  generalize wr.heap.size = gE at *
                  as_aux_lemma =>
                    have hz5 := HZ5.out
                    go_upto_region 25 with (at_builtin; refine wpList_append_own _ rfl _ _ 36 rfl w3.heap.size 9 iS (.string ByteArray.empty) 1 16 Try.underlying36 hS0 hS1 hS2 hS3 rfl (by decide) _ _ _ rfl (HG5.out.nm.2.alloc _) ⟨w5.heap.size, 0, none⟩ 1 1 [.string xa] rfl rfl (newsOf w5 [.string xa] 9) (by simp [Value.oneCell']) (by unfold maxLen; omega) (by omega) (by simp; omega) ?_; intro v6 w6 hown6 hgrow6 _)
                    have HG6 := Lib.hid (HG5.out.p1 hown6 hgrow6)
                    have HB6 := Lib.hid (Blk.grown (Blk.alloc HB5.out _) hgrow6 (fun e => (Blk.notOwned HB5.out HG5.out.nm.2 (by decide)) e.symm))
                    have hz6 : w3.heap.size ≤ w6.heap.size := HG6.out.kept.size
                    clear hown6 hgrow6 hz5
                    go_upto_region 26 with (at_builtin; refine wpList_append_own _ rfl _ _ 34 rfl w3.heap.size 4 iB (.bool false) 1 1 Try.underlying34 hB0 hB1 hB2 hB3 rfl (by decide) _ _ _ rfl (HG6.out.pr.2.alloc _) ⟨w6.heap.size, 0, none⟩ 1 1 [.bool ok] rfl rfl (newsOf w6 [.bool ok] 4) (by simp [Value.oneCell']) (by unfold maxLen; omega) (by omega) (by simp; omega) ?_; intro v7 w7 hown7 hgrow7 _)
                    have HG7 := Lib.hid (HG6.out.p2 (by rw [← HE.out.2.2]; exact hown7) hgrow7)
                    have HB7 := Lib.hid (Blk.grown (Blk.alloc HB6.out _) hgrow7 (fun e => (Blk.notOwned HB6.out HG6.out.pr.2 (by decide)) e.symm))
                    have hz7 : w3.heap.size ≤ w7.heap.size := HG7.out.kept.size
                    have y1 := HB7.out.cell 1
                    have y2 := HB7.out.cell 2
                    simp only [List.getElem?_cons_zero, List.getElem?_cons_succ] at y1 y2
                    clear hown7 hgrow7 hz6
                    go_upto_region 27 with (at_builtin; refine wpList_append_own _ rfl _ _ 60 rfl w3.heap.size 44 iR (.agg #[.int .u32 0, .int .u32 0]) 2 8 Try.underlying60 hR0 hR1 hR2 hR3 rfl (by decide) _ _ _ rfl (HG7.out.rf.2.alloc _) ⟨w7.heap.size, 0, none⟩ 1 1 [.int .u32 (e1 : Int), .int .u32 (e2' : Int)] rfl rfl (newsOf w7 [.int .u32 (e1 : Int), .int .u32 (e2' : Int)] 44) (by simp [Value.oneCell']) (by unfold maxLen; omega) (by omega) (by simp; omega) ?_; intro v8 w8 hown8 hgrow8 _)
                    have HG8 := Lib.hid (HG7.out.p3 (a := xa) (by rw [← HE.out.1, ← HE.out.2.1]; exact hown8) hgrow8)
                    have HB8 := Lib.hid (Blk.grown (Blk.alloc HB7.out _) hgrow8 (fun e => (Blk.notOwned HB7.out HG7.out.rf.2 (by decide)) e.symm))
                    have hz8 : w3.heap.size ≤ w8.heap.size := HG8.out.kept.size
                    have y4 := HB8.out.cell 4
                    simp only [List.getElem?_cons_zero, List.getElem?_cons_succ] at y4
                    clear hown8 hgrow8 hz7 y1 y2
                    go_upto_region 21 with (at_builtin; refine wpList_append_own _ rfl _ _ 87 rfl w3.heap.size 23 iU (.int .u32 0) 1 4 Try.underlying87 hU0 hU1 hU2 hU3 rfl (by decide) _ _ _ rfl (HG8.out.sr.2.alloc _) ⟨w8.heap.size, 0, none⟩ 1 1 [.int .u32 (e1 : Int)] rfl rfl (newsOf w8 [.int .u32 (e1 : Int)] 23) (by simp [Value.oneCell']) (by unfold maxLen; omega) (by omega) (by simp; omega) ?_; intro v9 w9 hown9 hgrow9 _)
                    have HNX : Hid (T15 w3 fs v ρ v6 v7 v8 v9 (.int .i64 ((j : Int) + 1)) w9) := Lib.hid ⟨j + 1, l2 ++ [xa], by omega, by go_num, HG8.out.p4 (a := xa) (by rw [← HE.out.1]; exact hown9) hgrow9, by have := HL5.out; simp; omega, fun x hx => by
                      rcases List.mem_append.1 hx with hx | hx
                      · exact HS5.out x hx
                      · rw [List.mem_singleton.1 hx]; exact HXS.out⟩
                    clear hown9 hgrow9 hz8 y4
                    go_wp2_with fail
                    go_roundw
                    case rel => exact HNX.out
                    case measure => simp [intOf]; omega
                · obtain rfl : j = (exF fs v).length := by omega
                  have HNX : Hid (T14 w3 fs n ρ (.slice a10 l2.length c10) (.slice a11 l2.length c11) (.slice a12 l2.length c12) (.slice a13 l2.length c13) (.int .i64 ((v : Int) + 1)) wr) := Lib.hid ⟨v + 1, l2, hlt, by go_num, HF5.out, by rw [nm_succ]; exact HL5.out, HS5.out⟩
                  clear HF5 HL5 HS5 HR
                  generalize (exF fs v).length = ml at *
                  go_wp2_with fail
                  go_roundw
                  case rel => exact HNX.out
                  case measure => simp [intOf]; omega
            · obtain rfl : v = n := by omega
              have hl2 : ls.length ≤ 4096 := by
                have h1 := HL4.out
                have h3 := HA.out.fit.names
                omega
              have hlen := fun ty => mapF_len (HA.out.res.kept HF4.out.kept) Try.underlying32 ty
              have HC := Lib.hid (HD2.out wr HF4.out.kept)
              clear hS0 hS1 hS2 hS3 hB0 hB1 hB2 hB3 hR0 hR1 hR2 hR3 hU0 hU1 hU2 hU3
              go_wp2_with fail
              refine HC.out.mono ?_
              intro e w7 hP
              obtain ⟨rfl, V3, ρ3, R3, β3, bn3, st3, jv3, stp3, tn3, _⟩ := hP
              have hRR : R3 = R := same_size HA.out.res st3.res (fun a => stp3.same (fun x hx => (HIS.out x).2 hx) a)
              subst hRR
              have HFI := Lib.hid (HF4.out.fin HAP.out HBA.out tn3)
              have HKW := Lib.hid (HKT.out wr w7 (HK03.out.trans HF4.out.kept) tn3)
              have HEV := Lib.hid (fun a => eV_same stp3 (fun x hx => (HIS.out x).2 hx) a)
              have HR7 : Hid (mapf.MapF Try.prog 9 w7 w2.heap.size R3 (resV V3 ρ3)) := Lib.hid st3.res
              have HVE3 := Lib.hid (fun a => vE_form st3 a)
              have hlen2 := fun ty => mapF_len HR7.out Try.underlying32 ty
              clear st3 jv3 stp3 tn3 hlen HC HF4 HKT HD2 HAP HIS HK03 HBA HVE
              go_wp2_with fail
              clear hlen2
              as_aux_lemma =>
                go_loopw [20] (fun t20 W => ∃ k : Nat, k ≤ ls.length ∧ t20 = .int .i64 (k : Int) ∧ Kept w7 W) (fun t20 _ => ls.length - (intOf t20).toNat)
                case atStart => exact ⟨0, Nat.zero_le _, rfl, Kept.refl _⟩
                case round =>
                  obtain ⟨k, hk, rfl, kk⟩ := hrel
                  have KK := Lib.hid kk
                  clear kk
                  by_cases hlt2 : k < ls.length
                  · have hf := HFI.out.kept KK.out
                    obtain ⟨g1, d1, q1, u1, m1, x1⟩ := Wk.at_ (f := fN) (size := 1) (fun _ => rfl) hf.nm ByteArray.empty hlt2
                    obtain ⟨g2, d2, q2, u2, m2, x2⟩ := Wk.at_ (f := fP ρ) (size := 1) (fun _ => rfl) hf.pr ByteArray.empty hlt2
                    obtain ⟨g3, d3, q3, u3, m3, x3⟩ := Wk.at_ (f := fR ρ) (size := 2) (fun _ => rfl) hf.rf ByteArray.empty hlt2
                    obtain ⟨g4, d4, q4, u4, m4, x4⟩ := Wk.at_ (f := fS ρ) (size := 1) (fun _ => rfl) hf.sr ByteArray.empty hlt2
                    simp only [Value.slice.injEq, true_and] at q1 q2 q3 q4
                    obtain ⟨rfl, rfl⟩ := q1
                    obtain ⟨rfl, rfl⟩ := q2
                    obtain ⟨rfl, rfl⟩ := q3
                    obtain ⟨rfl, rfl⟩ := q4
                    have y1 := x1 0 (by omega)
                    have y2 := x2 0 (by omega)
                    have y3 := x3 0 (by omega)
                    have y3b := x3 1 (by omega)
                    have y4 := x4 0 (by omega)
                    have hmem : ls.getD k ByteArray.empty ∈ ls := by
                      rw [List.getD_eq_getElem?_getD, List.getElem?_eq_getElem hlt2]; exact List.getElem_mem _
                    have HKL := Lib.hid (WideMaps.keyOf_string_mk (P := Try.prog) Try.underlying9 (HS4.out _ hmem))
                    generalize ls.getD k ByteArray.empty = xa at *
                    unfold fN at y1
                    unfold fP at y2
                    unfold fR at y3 y3b
                    unfold fS at y4
                    simp only [List.getElem?_cons_zero, List.getElem?_cons_succ, Nat.mul_one, Nat.add_zero] at y1 y2 y3 y3b y4
                    have hz48 : ∀ W : World, (zeroValue 48).run Try.prog W = .ok (.agg #[.slice none 0 0, .int .u32 0, .int .u32 0, .int .i32 0, .int .u32 0]) W := fun W => by kernel_rfl
                    have hlr := (HR7.out.kept KK.out).look K9 Try.underlying32 (hz48 _) HKL.out true
                    rw [look_e, resV_is, (HEV.out xa).1, (HEV.out xa).2] at hlr
                    simp only [if_true] at hlr
                    obtain ⟨ad, nn, cap, hvE⟩ := HVE3.out xa
                    rw [hvE] at hlr
                    have k2 : (k : Int) < (ls.length : Int) := by omega
                    clear hf x1 x2 x3 x4 hmem hz48 hvE u1 u2 u3 u4
                    generalize (eV ρ xa).1 = e1 at *
                    generalize (eV ρ xa).2 = e2' at *
                    generalize (ρ xa).isSome = ok at *
                    generalize hml : ls.length = ml at *
                    go_upto_region 36 with fail
                    have K5 := (Kept.refl wr).alloc (.cells #[.slice ad nn cap, .int .u32 (e1 : Int), .int .u32 (e2' : Int), .int .i32 0, .int .u32 (e1 : Int)] 48)
                    have B5 := Blk.new wr 48 [.slice ad nn cap, .int .u32 (e1 : Int), .int .u32 (e2' : Int), .int .i32 0, .int .u32 (e1 : Int)]
                    simp only [List.toArray] at B5
                    have z1 := B5.cell 1
                    have z2 := B5.cell 2
                    have z4 := B5.cell 4
                    simp only [List.getElem?_cons_zero, List.getElem?_cons_succ] at z1 z2 z4
                    have y2 := K5.cell y2
                    have y3 := K5.cell y3
                    have y3b := K5.cell y3b
                    have y4 := K5.cell y4
                    have HK5 := Lib.hid (KK.out.trans K5)
                    clear K5 B5 hlr y1
                    generalize wr.alloc (.cells #[.slice ad nn cap, .int .u32 (e1 : Int), .int .u32 (e2' : Int), .int .i32 0, .int .u32 (e1 : Int)] 48) = w8 at *
                    generalize wr.heap.size = gE at *
                    as_aux_lemma =>
                      have NQ := fun W => neq44 W (e1 : Int) (e2' : Int)
                      cases ok
                      · go_upto_region 38 with fail
                        go_region
                        all_goals
                          clear y2 y3 y3b y4 z1 z2 z4 NQ
                          go_wp2_with fail
                          go_roundw
                          case rel => exact ⟨k + 1, by omega, by go_num, by first | exact HK5.out | exact HK5.out.drew⟩
                          case measure => simp [intOf]; omega
                      · go_upto_region 38 with fail
                        go_region
                        all_goals
                          clear y2 y3 y3b y4 z1 z2 z4 NQ
                          go_wp2_with fail
                          go_roundw
                          case rel => exact ⟨k + 1, by omega, by go_num, by first | exact HK5.out | exact HK5.out.drew⟩
                          case measure => simp [intOf]; omega
                  · obtain rfl : k = ls.length := by omega
                    go_wp2_with fail
                    go_ret
                    exact ⟨rfl, HKW.out.trans KK.out⟩
      · have hd : decide (s0 < (n : Int)) = false := by simpa using hsn
        go_wp2_with fail
        go_ret
        exact ⟨rfl, Kept.refl _⟩
end Go.Proofs.Ytknmcbhcbomjmaa.xs
