/-
  The walk of jsBuild over this seat's program.
  Conditions: the files are readable and fit.
-/
import Derived.Test.YtkogmgonceneeaaCg
namespace Go.Proofs.Ytkogmgonceneeaa.css
open Go.ChangeShapes Go.WideShapes Go.ChangeAt Go.RowKit
open kit dfs

theorem dsum_mono (F : Ct) (i : Nat) {j k : Nat} (h : j ≤ k) : dsum F i j ≤ dsum F i k := by
  induction h with
  | refl => exact Nat.le_refl _
  | step _ ih => simp only [dsum]; omega
theorem dsum_le {F : Ct} {i j : Nat} (h : j < np F i) : dsum F i j + (imps F i j).length ≤ dsum F i (np F i) := by
  have := dsum_mono F i (show j + 1 ≤ np F i by omega)
  simpa only [dsum] using this
theorem partV_of (db nd : Nat) : ∃ A, Try.prog.built 152 [(2, .slice (some ⟨db, 0, none⟩) nd nd)] = some A ∧ PartV db nd A := by
  obtain ⟨A, h1, h2⟩ := Option.map_eq_some_iff.1 (show (Try.prog.built 152 [(2, .slice (some ⟨db, 0, none⟩) nd nd)]).map (fun A => (A.size, A.all (·.oneCell'), A.toList[2]?)) = some (11, true, some (.slice (some ⟨db, 0, none⟩) nd nd)) by kernel_rfl)
  simp only [Prod.mk.injEq] at h2
  exact ⟨A, h1, h2⟩
theorem sizeP : (Try.prog.info? 152).map (·.size) = some 11 := by kernel_rfl
theorem sizeR : (Try.prog.info? 142).map (·.size) = some 15 := by kernel_rfl
theorem info142 : ∃ i z, Try.prog.info? 142 = some i ∧ i.zero = some z ∧ z.cells.size = 15 ∧ i.size = 15 ∧ i.bytes = 112 := by
  have h : (Try.prog.info? 142).map (fun i => (i.zero.map (·.cells.size), i.size, i.bytes)) = some (some 15, 15, 112) := by kernel_rfl
  obtain ⟨i, hi, hh⟩ := Option.map_eq_some_iff.1 h
  simp only [Prod.mk.injEq] at hh
  obtain ⟨z, hz, hz2⟩ := Option.map_eq_some_iff.1 hh.1
  exact ⟨i, z, hi, hz, hz2, hh.2⟩
def Built (w : World) (n : Nat) (F : Ct) (e : Ending) (w' : World) : Prop := e = .returned (.slice (some ⟨w.heap.size, 0, none⟩) n n) ∧ ∃ G, Bd w w' n n G F
def A10 (w : World) (n : Nat) (F : Ct) (t4 : Value) (W : World) : Prop := ∃ (i : Nat) (G : Nat → Rp), i ≤ n ∧ t4 = .int .i64 (i : Int) ∧ Bd w W n i G F
def B10 (wo : World) (F : Ct) (i : Nat) (t7 t5 : Value) (W : World) : Prop := ∃ (j : Nat) (R : List (Option Nat)) (DB : Nat → Nat), j ≤ np F i ∧ t7 = .int .i64 (j : Int) ∧ Bq wo W F i j (dsum F i j) t5 R DB
def C10 (wo : World) (F : Ct) (i j db : Nat) (DB : Nat → Nat) (t10 t5 : Value) (W : World) : Prop := ∃ (q : Nat) (R : List (Option Nat)), q ≤ (imps F i j).length ∧ t10 = .int .i64 (q : Int) ∧ Bq wo W F i j (dsum F i j + q) t5 R DB ∧ IdxC W db (imps F i j) q R

set_option maxRecDepth 100000 in
set_option maxHeartbeats 16000000 in
theorem build (w : World) (a : Option Addr) (n c : Nat) (F : Ct) (h : FilesC w a n F) (hfit : Fits n F) (hds : ∀ i, i < n → dsum F i (np F i) ≤ 131072) :
    Calls Try.prog 10 #[.slice a n c] w (Built w n F) := by
  have hn := hfit.top
  obtain ⟨i9, z9, hi, hz0, hz1, hz2, hz3⟩ := info142
  obtain ⟨C1, l1, g1, m1⟩ := makeN (T := 31) (E := 202) (size := 24) (bytes := 280) Try.underlying31 (by kernel_rfl) n (by omega) (by omega)
  obtain ⟨CS, hCS, hcs2⟩ : ∃ CS, Try.prog.built 181 [] = some CS ∧ (CS.size, CS[63]?) = (64, some (.int .u32 0)) := Option.map_eq_some_iff.1 (by kernel_rfl)
  simp only [Prod.mk.injEq] at hcs2
  have HCS := Lib.hid hCS
  have LS := Lib.hid hcs2
  have HA0 : Hid (A10 w n F (.int .i64 0) (w.alloc (.cells C1.toArray 202))) := Lib.hid ⟨0, fun _ => ⟨0, 0, fun _ => 0, .slice none 0 0, []⟩, Nat.zero_le _, rfl, (Kept.refl _).alloc _, ⟨C1, Blk.new w 202 C1, l1, fun j hj => absurd hj (by omega)⟩, fun j hj => absurd hj (by omega)⟩
  have HF := Lib.hid h
  have HFit := Lib.hid hfit
  have HDS := Lib.hid hds
  clear h hfit hCS hcs2 g1 l1 hds
  go_enter Try.func10, Try.ntmps10
  go_wp2_with fail
  clear m1
  generalize w.alloc (.cells C1.toArray 202) = wa at *
  go_loopw [4] (fun t4 W => A10 w n F t4 W) (fun t4 _ => n - (intOf t4).toNat)
  case atStart => exact HA0.out
  case round =>
    obtain ⟨i, G, hil, rfl, hB⟩ := hrel
    obtain ⟨wo, rfl⟩ : ∃ wo : World, wo = wr := ⟨_, rfl⟩
    have HB := Lib.hid hB
    clear hB HA0
    by_cases hlt : i < n
    · obtain ⟨b, off, pa, pc, rfl, hb, c0, cc1, cc2, hcss, hpc, hpm, hp0, hP⟩ := HF.out.at_ hlt
      have HC0 := Lib.hid c0
      have HC1 := Lib.hid cc1
      have HC2 := Lib.hid cc2
      have d0 := HB.out.kept.cell c0
      have HP := Lib.hid hP
      have k0 : (i : Int) < (n : Int) := by omega
      have hnp : np F i ≤ 131072 := HFit.out.np i hlt
      obtain ⟨C3, l3, o3, g3, m3⟩ := makeN1 (T := 130) (E := 152) (size := 11) (bytes := 152) Try.underlying130 (by kernel_rfl) (by kernel_rfl) (np F i) (by omega) (by omega)
      have HB0 : Hid (B10 wo F i (.int .i64 0) (.slice none 0 0) (wo.alloc (.cells C3.toArray 152))) := Lib.hid ⟨0, [], fun _ => 0, Nat.zero_le _, rfl, (Kept.refl _).alloc _, Wk.nil _, ⟨C3, Blk.new _ _ _, l3, o3, fun p hp => absurd hp (by omega)⟩, fun p hp => absurd hp (by omega), rfl⟩
      clear c0 cc1 cc2 hP hp0 g3 l3 o3
      go_wp2_with fail
      clear m3 d0
      generalize wo.alloc (.cells C3.toArray 152) = wb at *
      go_loopw [7, 5] (fun t7 t5 W => B10 wo F i t7 t5 W) (fun t7 _ _ => np F i - (intOf t7).toNat)
      case atStart => exact HB0.out
      case round =>
        obtain ⟨j, R, DB, hj, rfl, hPq⟩ := hrel
        obtain ⟨wi, rfl⟩ : ∃ wi : World, wi = wr := ⟨_, rfl⟩
        have HPq := Lib.hid hPq
        clear hPq HB0
        have HKi := Lib.hid (HB.out.kept.trans HPq.out.kept)
        have d0 := HKi.out.cell HC0.out
        obtain ⟨⟨a5, c5, rfl⟩, _⟩ := HPq.out.recs
        by_cases hlt2 : j < np F i
        · obtain ⟨b2, off2, da, dc, rfl, hb2, e1, hd1, hd2, hd0, hD, h32⟩ := part_at HP.out hlt2
          have d1 := HKi.out.cell e1
          have HD := Lib.hid hD
          have H32 := Lib.hid h32
          have j0 : (j : Int) < (np F i : Int) := by omega
          have hdl : (imps F i j).length ≤ 131072 := HFit.out.nd i hlt j hlt2
          have hdt : dsum F i j + (imps F i j).length ≤ 131072 := Nat.le_trans (dsum_le hlt2) (HDS.out i hlt)
          obtain ⟨C4, l4, g4, m4⟩ := makeN (T := 27) (E := 23) (size := 1) (bytes := 4) Try.underlying27 (by kernel_rfl) (imps F i j).length (by omega) (by omega)
          have HC4 : Hid (C10 wo F i j wi.heap.size DB (.int .i64 0) (.slice a5 R.length c5) (wi.alloc (.cells C4.toArray 23))) := Lib.hid ⟨0, R, Nat.zero_le _, rfl, HPq.out.kept2 ((Kept.refl _).alloc _), C4, Blk.new _ _ _, by rw [l4, Nat.mul_one], fun k _ hq => absurd hq (by omega)⟩
          have HNE : Hid ((∀ p, p < j → DB p ≠ wi.heap.size) ∧ wo.heap.size ≤ wi.heap.size) := Lib.hid ⟨fun p hp e => by obtain ⟨cs, hb, _⟩ := HPq.out.dps p hp; have := hb.lt; omega, HPq.out.kept.size⟩
          clear e1 hD h32 hb2 hd0 g4 l4
          go_wp2_with fail
          clear m4 d0 d1
          generalize wi.alloc (.cells C4.toArray 23) = wc at *
          go_loopw [10, 5] (fun t10 t5 W => C10 wo F i j wi.heap.size DB t10 t5 W) (fun t10 _ _ => (imps F i j).length - (intOf t10).toNat)
          case atStart => exact HC4.out
          case round =>
            obtain ⟨q, R, hq, rfl, hBq, hI⟩ := hrel
            have HBq := Lib.hid hBq
            have HI := Lib.hid hI
            clear hBq hI HC4
            have HKr := Lib.hid (HB.out.kept.trans HBq.out.kept)
            obtain ⟨⟨a5, c5, rfl⟩, _⟩ := HBq.out.recs
            have hR32 : q ≤ (imps F i j).length → R.length ≤ 131072 := fun _ => by have := HBq.out.len; omega
            have HRL := Lib.hid hR32
            clear hR32
            by_cases hlt3 : q < (imps F i j).length
            · obtain ⟨b3, off3, rfl, _, hc3⟩ := HD.out (by omega)
              obtain ⟨s1, s2⟩ := hc3 q hlt3
              have q0 : (q : Int) < ((imps F i j).length : Int) := by omega
              have hR32 := HRL.out hq
              have W32 : IntKind.u32.wrap (R.length : Int) = (R.length : Int) := by rw [IntKind.wrap_u32]; omega
              obtain ⟨cs3, hb3, hl3, _⟩ := HI.out
              obtain ⟨v2, p1, p2⟩ := hb3.has (i := q) (by omega)
              obtain ⟨hq1, hq2⟩ := HBq.out.idx HI.out HNE.out.1 HNE.out.2 hlt3
              have HQ1 := Lib.hid hq1
              have HQ2 := Lib.hid hq2
              clear hc3 hb3 hl3 hq1 hq2
              go_upto_region 16 with fail
              generalize wr.setCell ⟨wi.heap.size, q, none⟩ (.int .u32 (R.length : Int)) = W1 at *
              have hW1s : wo.heap.size ≤ W1.heap.size ∧ Value.ownBlock (.slice a5 R.length c5) ≠ some W1.heap.size := ⟨HQ1.out.kept.size, fun e => absurd (HQ1.out.recs.2.lt _ e).2 (Nat.lt_irrefl _)⟩
              obtain ⟨W2, hW2⟩ : ∃ W2, W2 = W1.alloc (.cells #[.pointer none, .pointer none, .string ⟨#[]⟩, .string ⟨#[]⟩, .string ⟨#[]⟩, .string ⟨#[]⟩, .int .u8 0, .int .i32 0, .int .i32 0, .int .i32 0, .int .u32 0, .int .u32 0, .int .u16 0, .int .u8 0, .int .u8 0] 142) := ⟨_, rfl⟩
              have kk : Kept W1 W2 := by rw [hW2]; exact (Kept.refl _).alloc _
              have B2 : Hid (Blk W2 W1.heap.size 142 (rc none)) := Lib.hid (by rw [hW2]; exact Blk.new W1 142 zR)
              have HS1 := Lib.hid (HB.out.kept.trans (HQ1.out.kept.trans kk))
              have HQ3 := Lib.hid (HQ1.out.kept2 kk)
              have HQ4 := Lib.hid (HQ2.out.kept kk)
              have t1 := HS1.out.cell s1
              have t2 := HS1.out.cell s2
              have HX32 := Lib.hid (H32.out _ (List.getElem_mem hlt3))
              have HPS := fun (W5 W6 : World) (o : Obj) (v : Value) (h3 : Bq wo W5 F i j (dsum F i j + q) (.slice a5 R.length c5) R DB) (h4 : IdxP W5 wi.heap.size (imps F i j) q R) => Bq.push (W2 := W6) (o := o) (v := v) h3 h4 hlt3
              clear p1 p2 s1 s2 HQ1 HQ2
              generalize (imps F i j)[q] = x at *
              obtain ⟨x1, x2⟩ := x
              simp only at t1 t2
              have HPSH := Lib.hid HPS
              clear HPS
              go_upto_region 17 with fail
              rw [← hW2]
              clear hW2
              have HRB := Lib.hid hW1s
              clear hW1s
              generalize W1.heap.size = rb at *
              cases x1
              · obtain ⟨CS, hCS⟩ : ∃ CS, CS = rc (tgt (false, x2)) := ⟨_, rfl⟩
                have hlC : CS.length = 15 := by rw [hCS]; rfl
                have hoC : ∀ u ∈ CS, u.oneCell' = true := by rw [hCS]; exact rc_one _
                have HB2 : Hid (Blk W2 rb 142 CS) := Lib.hid (by rw [hCS]; exact B2.out)
                have hr : W2.rangeAt rb 0 CS := fun j v hv => by rw [Nat.zero_add, HB2.out.cell]; exact hv
                have hsz : (Try.prog.info? 142).map (·.size) = some CS.length := by rw [hlC]; exact sizeR
                have HCSE := Lib.hid hCS
                have o5 := HQ3.out.recs.2
                have hsw : wo.heap.size ≤ W2.heap.size := HQ3.out.kept.size
                clear hCS
                go_wp2_with (first | (with_reducible refine wpList_load_mid rfl 142 (.tmp 11) rfl rb 0 rfl CS _ hr Try.underlying142 rfl hsz ?_) | (at_builtin; refine wpList_append_own_at (P := Try.prog) (w := _) rfl _ _ 129 rfl wo.heap.size 142 i9 z9 15 112 Try.underlying129 hi hz0 hz2 hz3 hz1 (by decide) _ _ _ rfl (o5.alloc _) ⟨W2.heap.size, 0, none⟩ 1 1 CS rfl (by rw [hlC]) (newsOf2 W2 _ CS 142 hlC) hoC (by unfold maxLen; omega) (by omega) (by simp; omega) ?_; intro v5 W5 hown5 hg5 _ hat5))
                have hp := HPSH.out W2 W5 _ v5 HQ3.out HQ4.out (by rw [← HCSE.out]; exact hown5) hg5 hat5
                have HP5 := Lib.hid hp
                clear hp hown5 hg5 hat5 o5 hr hsz hoC hlC
                go_wp2_with fail
                go_roundw
                case rel => exact ⟨q + 1, _, by omega, by go_num, HP5.out.1, HP5.out.2⟩
                case measure => simp [intOf]; omega
              · go_wp2_with fail
                refine (make (x2 : Int) (by omega) (by have h : x2 ≤ 4294967295 := HX32.out; omega) W2).mono ?_
                rintro e W3 ⟨rfl, k3⟩
                have HQ5 := Lib.hid (HQ3.out.kept2 k3)
                have HQ6 := Lib.hid (HQ4.out.kept k3)
                have B3 := Lib.hid (B2.out.kept k3)
                have y1 : W3.cell? ⟨rb, 10, none⟩ = some (.int .u32 0) := B3.out.cell 10
                have y2 := B3.out.free 10
                have B4 : Hid (Blk (W3.setCell ⟨rb, 10, none⟩ (.int .u32 (4294967295 - (x2 : Int)))) rb 142 (rc (tgt (true, x2)))) := Lib.hid (B3.out.set 10 _)
                have HQ7 := Lib.hid (HQ5.out.newRec B3.out HRB.out.1 HRB.out.2 (.int .u32 (4294967295 - (x2 : Int))))
                have HQ8 := Lib.hid (HQ6.out.newRec B3.out (.int .u32 (4294967295 - (x2 : Int))))
                clear k3 HQ3 HQ4 HQ5 HQ6 B2 t1 t2
                go_upto_region 19 with fail
                generalize W3.setCell ⟨rb, 10, none⟩ (.int .u32 (4294967295 - (x2 : Int))) = W4 at *
                clear y1 y2 B3
                obtain ⟨CS, hCS⟩ : ∃ CS, CS = rc (tgt (true, x2)) := ⟨_, rfl⟩
                have hlC : CS.length = 15 := by rw [hCS]; rfl
                have hoC : ∀ u ∈ CS, u.oneCell' = true := by rw [hCS]; exact rc_one _
                have HB2 : Hid (Blk W4 rb 142 CS) := Lib.hid (by rw [hCS]; exact B4.out)
                have hr : W4.rangeAt rb 0 CS := fun j v hv => by rw [Nat.zero_add, HB2.out.cell]; exact hv
                have hsz : (Try.prog.info? 142).map (·.size) = some CS.length := by rw [hlC]; exact sizeR
                have HCSE := Lib.hid hCS
                have o5 := HQ7.out.recs.2
                have hsw : wo.heap.size ≤ W4.heap.size := HQ7.out.kept.size
                clear hCS
                go_wp2_with (first | (with_reducible refine wpList_load_mid rfl 142 (.tmp 11) rfl rb 0 rfl CS _ hr Try.underlying142 rfl hsz ?_) | (at_builtin; refine wpList_append_own_at (P := Try.prog) (w := _) rfl _ _ 129 rfl wo.heap.size 142 i9 z9 15 112 Try.underlying129 hi hz0 hz2 hz3 hz1 (by decide) _ _ _ rfl (o5.alloc _) ⟨W4.heap.size, 0, none⟩ 1 1 CS rfl (by rw [hlC]) (newsOf2 W4 _ CS 142 hlC) hoC (by unfold maxLen; omega) (by omega) (by simp; omega) ?_; intro v5 W5 hown5 hg5 _ hat5))
                have hp := HPSH.out W4 W5 _ v5 HQ7.out HQ8.out (by rw [← HCSE.out]; exact hown5) hg5 hat5
                have HP5 := Lib.hid hp
                clear hp hown5 hg5 hat5 o5 hr hsz hoC hlC
                go_wp2_with fail
                go_roundw
                case rel => exact ⟨q + 1, _, by omega, by go_num, HP5.out.1, HP5.out.2⟩
                case measure => simp [intOf]; omega
            · obtain rfl : q = (imps F i j).length := by omega
              obtain ⟨A, hA, hAV⟩ := partV_of wi.heap.size (imps F i j).length
              have HA := Lib.hid hA
              have hNX := HBq.out.part HI.out hlt2 hAV
              rw [show dsum F i j + (imps F i j).length = dsum F i (j + 1) from rfl] at hNX
              have HNX := Lib.hid hNX
              obtain ⟨c9, hb9, hl9, _⟩ := HBq.out.row
              have hth : wr.there wo.heap.size (j * 11) A.size := hb9.there (by rw [hAV.1, hl9]; have := Nat.mul_le_mul_right 11 (show j + 1 ≤ np F i by omega); omega)
              have hsA : (Try.prog.info? 152).map (·.size) = some A.size := by rw [hAV.1]; exact sizeP
              have hoA : A.all (·.oneCell') = true := hAV.2.1
              clear hA hAV hb9 hl9 hNX
              generalize hdl : (imps F i j).length = dl at *
              clear hdl
              go_wp2_with (first | (refine wpList_build1 rfl 152 _ rfl [(2, .slice (some ⟨wi.heap.size, 0, none⟩) dl dl)] ?hL1 A HA.out ?_) | (with_reducible refine wpList_store_mid rfl 152 (.tmp 82) (.tmp 81) rfl wo.heap.size (j * 11) A rfl rfl hth hsA hoA ?_))
              go_roundw
              case rel => exact ⟨j + 1, R, _, by omega, by go_num, HNX.out⟩
              case measure => simp [intOf]; omega
        · obtain rfl : j = np F i := by omega
          have hj1 : Blk (wi.alloc (.cells CS 181)) wi.heap.size 181 CS.toList := by have := Blk.new wi 181 CS.toList; simpa using this
          have HJ1 := Lib.hid hj1
          have HK1 := Lib.hid ((Kept.refl wi).alloc (.cells CS 181))
          have hl64 : CS.toList.length = 64 := by rw [Array.length_toList]; exact LS.out.1
          have hc63 : CS.toList[63]? = some (.int .u32 0) := by simpa using LS.out.2
          clear hj1
          go_upto_region 22 with (with_reducible refine wp_build0 rfl 181 rfl CS HCS.out ?_)
          generalize wi.alloc (.cells CS 181) = w8 at *
          generalize hjb : wi.heap.size = jb at *
          have HJB := Lib.hid hjb
          clear hjb
          obtain ⟨v4, p1, p2⟩ := HJ1.out.has (i := 20) (by rw [hl64]; omega)
          have HJ2 := Lib.hid (HJ1.out.set 20 (.slice (some ⟨wo.heap.size, 0, none⟩) (np F i) (np F i)))
          have HK2 := Lib.hid (HK1.out.setCell (p := ⟨jb, 20, none⟩) (by have := HJB.out; show wi.heap.size ≤ jb; omega) (.slice (some ⟨wo.heap.size, 0, none⟩) (np F i) (np F i)))
          go_upto_region 23 with fail
          generalize w8.setCell ⟨jb, 20, none⟩ (.slice (some ⟨wo.heap.size, 0, none⟩) (np F i) (np F i)) = w9 at *
          clear p1 p2 HJ1 HK1
          obtain ⟨v5, p3, p4⟩ := HJ2.out.has (i := 35) (by rw [List.length_set, hl64]; omega)
          have HJ3 := Lib.hid (HJ2.out.set 35 (.slice a5 R.length c5))
          have HK3 := Lib.hid (HK2.out.setCell (p := ⟨jb, 35, none⟩) (by have := HJB.out; show wi.heap.size ≤ jb; omega) (.slice a5 R.length c5))
          go_upto_region 24 with fail
          generalize w9.setCell ⟨jb, 35, none⟩ (.slice a5 R.length c5) = wd at *
          clear p3 p4 HJ2 HK2
          have HKd := Lib.hid (HB.out.kept.trans (HPq.out.kept.trans HK3.out))
          have f1 := HKd.out.cell HC1.out
          cases hcv : hasC F i
          · rw [hcv] at f1
            have HONE := Lib.hid (HPq.out.one HK3.out HJ3.out (by rw [List.getElem?_set_ne (by omega), List.getElem?_set_self (by omega)]) (by rw [List.getElem?_set_self (by rw [List.length_set]; omega)]) (by rw [List.getElem?_set_ne (by omega), List.getElem?_set_ne (by omega), hc63]; simp [cssT, hcv, ixv]))
            have HKo := Lib.hid (HPq.out.kept.trans HK3.out)
            clear hcv HJ3 hl64 hc63
            go_upto_region 26 with fail
            go_wp2_with fail
            refine (jsFile _ jb).mono ?_
            rintro e w10 ⟨A, rfl, hA, k10⟩
            have HNX := Lib.hid (HB.out.step (HKo.out) HONE.out hlt k10 hA)
            obtain ⟨c7, q7, l7, _⟩ := HB.out.files
            have q8 := (q7.kept HKo.out).kept k10
            have hth : w10.there w.heap.size (i * 24) A.size := q8.there (by rw [hA.1, l7]; have := Nat.mul_le_mul_right 24 (show i + 1 ≤ n by omega); omega)
            have hsA : (Try.prog.info? 202).map (·.size) = some A.size := by rw [hA.1]; exact sizeF
            have hoA : A.all (·.oneCell') = true := hA.2.2.2
            clear q7 l7 q8 k10 hA
            go_wp2_with (with_reducible refine wpList_store_mid rfl 202 (.tmp 113) (.tmp 112) rfl w.heap.size (i * 24) A rfl rfl hth hsA hoA ?_)
            go_roundw
            case rel => exact ⟨i + 1, _, by omega, by go_num, HNX.out⟩
            case measure => simp [intOf]; omega
          · rw [hcv] at f1
            have f2 := HKd.out.cell HC2.out
            go_upto_region 25 with fail
            go_wp2_with fail
            refine (make (cssOf F i : Int) (by omega) (by omega) wd).mono ?_
            rintro e we ⟨rfl, ke⟩
            have HJ4 := Lib.hid (HJ3.out.kept ke)
            have HK4 := Lib.hid (HK3.out.trans ke)
            obtain ⟨v6, p5, p6⟩ := HJ4.out.has (i := 63) (by rw [List.length_set, List.length_set, hl64]; omega)
            have HJ5 := Lib.hid (HJ4.out.set 63 (.int .u32 (4294967295 - (cssOf F i : Int))))
            have HK5 := Lib.hid (HK4.out.setCell (p := ⟨jb, 63, none⟩) (by have := HJB.out; show wi.heap.size ≤ jb; omega) (.int .u32 (4294967295 - (cssOf F i : Int))))
            have HONE := Lib.hid (HPq.out.one HK5.out HJ5.out (by rw [List.getElem?_set_ne (by omega), List.getElem?_set_ne (by omega), List.getElem?_set_self (by omega)]) (by rw [List.getElem?_set_ne (by omega), List.getElem?_set_self (by rw [List.length_set]; omega)]) (by rw [List.getElem?_set_self (by rw [List.length_set, List.length_set]; omega)]; simp [cssT, hcv, ixv]))
            have HKo := Lib.hid (HPq.out.kept.trans HK5.out)
            clear hcv HJ3 HJ4 HJ5 HK3 HK4 hl64 hc63 ke
            go_upto_region 26 with fail
            generalize we.setCell ⟨jb, 63, none⟩ (.int .u32 (4294967295 - (cssOf F i : Int))) = wf at *
            clear p5 p6
            go_wp2_with fail
            refine (jsFile _ jb).mono ?_
            rintro e w10 ⟨A, rfl, hA, k10⟩
            have HNX := Lib.hid (HB.out.step (HKo.out) HONE.out hlt k10 hA)
            obtain ⟨c7, q7, l7, _⟩ := HB.out.files
            have q8 := (q7.kept HKo.out).kept k10
            have hth : w10.there w.heap.size (i * 24) A.size := q8.there (by rw [hA.1, l7]; have := Nat.mul_le_mul_right 24 (show i + 1 ≤ n by omega); omega)
            have hsA : (Try.prog.info? 202).map (·.size) = some A.size := by rw [hA.1]; exact sizeF
            have hoA : A.all (·.oneCell') = true := hA.2.2.2
            clear q7 l7 q8 k10 hA
            go_wp2_with (with_reducible refine wpList_store_mid rfl 202 (.tmp 113) (.tmp 112) rfl w.heap.size (i * 24) A rfl rfl hth hsA hoA ?_)
            go_roundw
            case rel => exact ⟨i + 1, _, by omega, by go_num, HNX.out⟩
            case measure => simp [intOf]; omega
    · obtain rfl : n = i := by omega
      go_wp2_with fail
      go_ret
      exact ⟨rfl, G, HB.out⟩
end Go.Proofs.Ytkogmgonceneeaa.css
