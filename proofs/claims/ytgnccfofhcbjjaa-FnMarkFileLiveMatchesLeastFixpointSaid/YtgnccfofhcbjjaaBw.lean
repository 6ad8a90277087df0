/-
  The walk of lkB1Build over this seat's program.
  Conditions: the files are readable and small.
-/
import Derived.Test.YtgnccfofhcbjjaaBl
namespace Go.Proofs.Ytgnccfofhcbjjaa.lk
open Go.ChangeShapes Go.WideShapes Go.ChangeAt Go.RowKit
open kit dfs

def Built (w : World) (F : Ct) (u : Bool) (e : Ending) (w' : World) : Prop :=
  e = .returned (.tuple #[.slice (some ⟨w.heap.size, 0, none⟩) F.length F.length, .slice (some ⟨w.heap.size + 1, 0, none⟩) F.length F.length]) ∧ ∃ J EB PB, Bd w w' F u F.length J EB PB
def A9 (w : World) (F : Ct) (u : Bool) (t7 : Value) (W : World) : Prop := ∃ (i : Nat) (J EB PB : Nat → Nat), i ≤ F.length ∧ t7 = .int .i64 (i : Int) ∧ Bd w W F u i J EB PB
def B9 (w : World) (R : List Rec) (t11 : Value) (W : World) : Prop := ∃ q : Nat, q ≤ R.length ∧ t11 = .int .i64 (q : Int) ∧ Rq w W R q
def C9 (w : World) (P : List Prt) (t14 : Value) (W : World) : Prop := ∃ q : Nat, q ≤ P.length ∧ t14 = .int .i64 (q : Int) ∧ Pq w W P q
def D9 (w : World) (X : List Nat) (t17 : Value) (W : World) : Prop := ∃ q : Nat, q ≤ X.length ∧ t17 = .int .i64 (q : Int) ∧ Cp w W 23 1 X.length (natV X) q
def E9 (w : World) (X : List (Nat × Nat)) (t19 : Value) (W : World) : Prop := ∃ q : Nat, q ≤ X.length ∧ t19 = .int .i64 (q : Int) ∧ Cp w W 150 2 X.length (depV X) q
/-- record q's kind and source index are laid -/
def R91 (w : World) (R : List Rec) (q bx : Nat) (BX : List Value) (W : World) : Prop := Rr w W R q (.int .u32 (ixv (rcd R q).tgt)) (.int .u16 0) (.int .u8 ((rcd R q).kind : Int)) ∧ Blk W bx 137 BX
/-- the JSRepr's cells -/
def R92 (wp : World) (jb pb np rb nr : Nat) (css : Int) (W : World) : Prop :=
  ∃ cs, Blk W jb 131 cs ∧ cs[20]? = some (.slice (some ⟨pb, 0, none⟩) np np) ∧ cs[35]? = some (.slice (some ⟨rb, 0, none⟩) nr nr) ∧ cs[63]? = some (.int .u32 (ixv css)) ∧ Kept wp W
/-- file i's row is laid but for its bits, distance and mark -/
def R93 (w : World) (F : Ct) (u : Bool) (i : Nat) (J EB PB : Nat → Nat) (jb pb bx : Nat) (BX : List Value) (W : World) : Prop :=
  ∃ e0 e20 e23, Bm w W F u i J EB PB jb pb e0 (.int .u8 (if (fl F i).side = true then 0 else 1)) e20 e23 ∧ Blk W bx 66 BX
theorem sizeF60 : (Try.prog.info? 60).map (·.size) = some 24 := by kernel_rfl
theorem ixv_pos {t : Int} (h : 0 ≤ t) : ixv t = 4294967295 - t := by unfold ixv; rw [if_pos h]
theorem ixv_neg {t : Int} (h : t < 0) : ixv t = 0 := by unfold ixv; rw [if_neg (by omega)]
set_option maxRecDepth 100000 in
set_option maxHeartbeats 16000000 in
theorem build (w : World) (a : Option Addr) (n c : Nat) (F : Ct) (u : Bool) (h : FilesC w (.slice a n c) F) (hF : F.length = n) (hn : n ≤ 18724) (hl : Lens F 262144 n) (hok : ∀ i, i < n → Ok1 F i) :
    Calls Try.prog 9 #[.slice a n c, .bool u] w (Built w F u) := by
  obtain ⟨C1, l1, g1, m1⟩ := makeN (T := 29) (E := 60) (size := 24) (bytes := 280) Try.underlying29 (by kernel_rfl) n (by omega) (by omega)
  obtain ⟨C2, l2, g2, m2⟩ := makeN (T := 30) (E := 132) (size := 1) (bytes := 8) Try.underlying30 (by kernel_rfl) n (by omega) (by omega)
  obtain ⟨CS, hCS, hcs2⟩ : ∃ CS, Try.prog.built 131 [] = some CS ∧ (CS.size, CS[63]?) = (64, some (.int .u32 0)) := Option.map_eq_some_iff.1 (by kernel_rfl)
  simp only [Prod.mk.injEq] at hcs2
  have HCS := Lib.hid hCS
  have LS := Lib.hid hcs2
  simp only [Nat.mul_one] at l2
  have HA0 : Hid (A9 w F u (.int .i64 0) ((w.alloc (.cells C1.toArray 60)).alloc (.cells C2.toArray 132))) := Lib.hid ⟨0, fun _ => 0, fun _ => 0, fun _ => 0, Nat.zero_le _, rfl, Bd.start (by rw [hF]; exact l1) (by rw [hF]; exact l2)⟩
  have HF := Lib.hid h
  have HL := Lib.hid hl
  have HOK := Lib.hid hok
  have HN0 := Lib.hid hF
  clear h hl hF hCS hcs2 g1 g2 l1 l2 hok
  go_enter Try.func9, Try.ntmps9
  go_wp2_with fail
  clear m1 m2
  generalize (w.alloc (.cells C1.toArray 60)).alloc (.cells C2.toArray 132) = wa at *
  go_loopw [8] (fun t8 W => A9 w F u t8 W) (fun t8 _ => n - (intOf t8).toNat)
  case atStart => exact HA0.out
  case round =>
    obtain ⟨i, J, EB, PB, hi, rfl, hB⟩ := hrel
    rw [HN0.out] at hi
    obtain ⟨wo, rfl⟩ : ∃ wo : World, wo = wr := ⟨_, rfl⟩
    have HB := Lib.hid hB
    clear hB HA0
    by_cases hlt : i < n
    · obtain ⟨b, off, rfl, hb, ra, rc, pa, pc, c0, c1, c2, c3, c4, hx, ⟨hr1, hr2, _⟩, ⟨hp1, hp2, _⟩, hR, hP⟩ := HF.out.at_ (k := i) (by rw [HN0.out]; exact hlt)
      have HLT : Hid (i < F.length) := Lib.hid (by rw [HN0.out]; exact hlt)
      have HP := Lib.hid hP
      have HR := Lib.hid hR
      have HX := Lib.hid hx
      have d0 := HB.out.kept.cell c0
      have d1 := HB.out.kept.cell c1
      have d2 := HB.out.kept.cell c2
      have d3 := HB.out.kept.cell c3
      have d4 := HB.out.kept.cell c4
      have k0 : (i : Int) < (n : Int) := by omega
      have hrl : (fl F i).recs.length ≤ 262144 := (HL.out i hlt).1
      have hpl : (fl F i).parts.length ≤ 262144 := (HL.out i hlt).2.1
      have HLk := Lib.hid (HL.out i hlt).2.2
      have HKb := Lib.hid ((Kept.refl wo).alloc (.cells #[.int .i32 (fl F i).css, .bool (fl F i).side, .bool (fl F i).live, .slice ra (fl F i).recs.length rc, .slice pa (fl F i).parts.length pc] 66))
      have HBX : Hid (Blk (wo.alloc (.cells #[.int .i32 (fl F i).css, .bool (fl F i).side, .bool (fl F i).live, .slice ra (fl F i).recs.length rc, .slice pa (fl F i).parts.length pc] 66)) wo.heap.size 66 [.int .i32 (fl F i).css, .bool (fl F i).side, .bool (fl F i).live, .slice ra (fl F i).recs.length rc, .slice pa (fl F i).parts.length pc]) := Lib.hid (Blk.new wo 66 _)
      clear hP hR hx c0 c1 c2 c3 c4
      go_upto_region 7 with fail
      clear d0 d1 d2 d3 d4
      generalize wo.alloc (.cells #[.int .i32 (fl F i).css, .bool (fl F i).side, .bool (fl F i).live, .slice ra (fl F i).recs.length rc, .slice pa (fl F i).parts.length pc] 66) = wa at *
      generalize hbx : wo.heap.size = bx at *
      have HBXE := Lib.hid hbx
      clear hbx
      have z3 : wa.cell? ⟨bx, 3, none⟩ = some (.slice ra (fl F i).recs.length rc) := HBX.out.cell 3
      obtain ⟨C3, l3, o3, g3, m3⟩ := makeN1 (T := 107) (E := 147) (size := 15) (bytes := 112) Try.underlying107 (by kernel_rfl) (by kernel_rfl) (fl F i).recs.length (by omega) (by omega)
      have HB0 : Hid (B9 wa (fl F i).recs (.int .i64 0) (wa.alloc (.cells C3.toArray 147))) := Lib.hid ⟨0, Nat.zero_le _, rfl, (Kept.refl _).alloc _, C3, Blk.new _ _ _, l3, o3, fun p hp => absurd hp (by omega), fun p _ hp => ⟨g3 10 (.int .u32 0) (by omega) (by kernel_rfl) p hp, g3 12 (.int .u16 0) (by omega) (by kernel_rfl) p hp, g3 14 (.int .u8 0) (by omega) (by kernel_rfl) p hp⟩⟩
      clear g3 l3 o3
      go_wp2_with fail
      clear m3 z3
      generalize wa.alloc (.cells C3.toArray 147) = wb at *
      go_loopw [11] (fun t11 W => B9 wa (fl F i).recs t11 W) (fun t11 _ => (fl F i).recs.length - (intOf t11).toNat)
      case atStart => exact HB0.out
      case round =>
        obtain ⟨q, hq, rfl, hC⟩ := hrel
        obtain ⟨ws, rfl⟩ : ∃ ws : World, ws = wr := ⟨_, rfl⟩
        have HC := Lib.hid hC
        clear hC HB0
        have HKs := Lib.hid (HB.out.kept.trans (HKb.out.trans HC.out.kept))
        have z3 : ws.cell? ⟨bx, 3, none⟩ = some (.slice ra (fl F i).recs.length rc) := (HBX.out.kept HC.out.kept).cell 3
        by_cases hlt3 : q < (fl F i).recs.length
        · obtain ⟨b3, off3, e3, _, hq3⟩ := Sl.at_ (HR.out.kept HKs.out) hlt3
          cases e3
          obtain ⟨s0, s1, s2, hb1, hb2, hb3⟩ := hq3
          have q0 : (q : Int) < ((fl F i).recs.length : Int) := by omega
          have HKr := Lib.hid ((Kept.refl ws).alloc (.cells #[.int .i32 (rcd (fl F i).recs q).tgt, .int .u8 ((rcd (fl F i).recs q).kind : Int), .bool (rcd (fl F i).recs q).ext] 137))
          have HBR : Hid (Blk (ws.alloc (.cells #[.int .i32 (rcd (fl F i).recs q).tgt, .int .u8 ((rcd (fl F i).recs q).kind : Int), .bool (rcd (fl F i).recs q).ext] 137)) ws.heap.size 137 [.int .i32 (rcd (fl F i).recs q).tgt, .int .u8 ((rcd (fl F i).recs q).kind : Int), .bool (rcd (fl F i).recs q).ext]) := Lib.hid (Blk.new ws 137 _)
          have HSR : Hid (wa.heap.size < ws.heap.size) := Lib.hid (by obtain ⟨cs, q, _⟩ := HC.out.row; exact q.lt)
          go_upto_region 12 with fail
          clear s0 s1 s2
          have HRR := Lib.hid ((HC.out.open hlt3).kept2 HKr.out)
          generalize ws.alloc (.cells #[.int .i32 (rcd (fl F i).recs q).tgt, .int .u8 ((rcd (fl F i).recs q).kind : Int), .bool (rcd (fl F i).recs q).ext] 137) = wt at *
          generalize ws.heap.size = br at *
          have y0 : wt.cell? ⟨br, 1, none⟩ = some (.int .u8 ((rcd (fl F i).recs q).kind : Int)) := HBR.out.cell 1
          obtain ⟨v1, p1, f1⟩ := HRR.out.has hlt3 (o := 14) (by omega)
          have HR2 := Lib.hid (HRR.out.set14 hlt3 (.int .u8 ((rcd (fl F i).recs q).kind : Int)) rfl)
          have HBR2 := Lib.hid (HBR.out.far (p := ⟨wa.heap.size, q * 15 + 14, none⟩) (by have := HSR.out; show br ≠ wa.heap.size; omega) (.int .u8 ((rcd (fl F i).recs q).kind : Int)))
          go_upto_region 13 with fail
          generalize wt.setCell ⟨wa.heap.size, q * 15 + 14, none⟩ (.int .u8 ((rcd (fl F i).recs q).kind : Int)) = wv at *
          clear y0 p1 f1 HRR HBR HSR
          have y0 : wv.cell? ⟨br, 0, none⟩ = some (.int .i32 (rcd (fl F i).recs q).tgt) := HBR2.out.cell 0
          have HBRN : Hid (br ≠ wa.heap.size) := Lib.hid (by
            obtain ⟨cs, hq, _⟩ := HR2.out.row
            exact HBR2.out.apart hq (by decide))
          go_upto_if 61 with (fail)
          go_cut [] (fun W => Hid (R91 wa (fl F i).recs q br [.int .i32 (rcd (fl F i).recs q).tgt, .int .u8 ((rcd (fl F i).recs q).kind : Int), .bool (rcd (fl F i).recs q).ext] W))
          case first => as_aux_lemma =>
            by_cases ht : 0 ≤ (rcd (fl F i).recs q).tgt
            · have HT := Lib.hid (ixv_pos ht)
              have W1 : IntKind.u32.wrap (rcd (fl F i).recs q).tgt = (rcd (fl F i).recs q).tgt := by rw [IntKind.wrap_u32]; omega
              go_wp2_with fail
              refine (make (rcd (fl F i).recs q).tgt ht (by omega) wv).mono ?_
              rintro e w3 ⟨rfl, k3⟩
              have HR3 := Lib.hid (HR2.out.kept2 k3)
              have HB3 := Lib.hid (HBR2.out.kept k3)
              obtain ⟨v2, p2, f2⟩ := HR3.out.has hlt3 (o := 10) (by omega)
              clear y0 k3
              go_wp2_with fail
              go_meet
              exact Lib.hid ⟨by rw [HT.out]; exact HR3.out.set10 hlt3 _ rfl, HB3.out.far (p := ⟨wa.heap.size, q * 15 + 10, none⟩) HBRN.out _⟩
            · have HT := Lib.hid (ixv_neg (show (rcd (fl F i).recs q).tgt < 0 by omega))
              have ht2 : (rcd (fl F i).recs q).tgt < 0 := by omega
              go_wp2_with fail
              go_meet
              exact Lib.hid ⟨by rw [HT.out]; exact HR2.out, HBR2.out⟩
          case rest => as_aux_lemma =>
            have HR4 := Lib.hid hcut.out.1
            have HB4 := Lib.hid hcut.out.2
            clear hcut y0 HR2 HBR2
            have y2 : wc.cell? ⟨br, 2, none⟩ = some (.bool (rcd (fl F i).recs q).ext) := HB4.out.cell 2
            obtain ⟨v2, p2, f2⟩ := HR4.out.has hlt3 (o := 12) (by omega)
            cases hex : (rcd (fl F i).recs q).ext
            · have HNX := Lib.hid (show Rq wa wc (fl F i).recs (q + 1) from Rr.done (by rw [hex]; exact HR4.out))
              rw [hex] at y2
              clear hex
              go_wp2_with fail
              go_roundw
              case rel => exact ⟨q + 1, by omega, by go_num, HNX.out⟩
              case measure => simp [intOf]; omega
            · have HNX := Lib.hid (show Rq wa (wc.setCell ⟨wa.heap.size, q * 15 + 12, none⟩ (.int .u16 1024)) (fl F i).recs (q + 1) from Rr.done (by rw [hex]; exact HR4.out.set12 hlt3 (.int .u16 1024) rfl))
              rw [hex] at y2
              clear hex
              go_wp2_with fail
              go_roundw
              case rel => exact ⟨q + 1, by omega, by go_num, HNX.out⟩
              case measure => simp [intOf]; omega
        · obtain rfl : q = (fl F i).recs.length := by omega
          have HRQ := Lib.hid HC.out
          clear HC HR
          have z4 : ws.cell? ⟨bx, 4, none⟩ = some (.slice pa (fl F i).parts.length pc) := (HBX.out.kept HRQ.out.kept).cell 4
          obtain ⟨C4, l4, o4, g4, m4⟩ := makeN1 (T := 92) (E := 83) (size := 11) (bytes := 152) Try.underlying92 (by kernel_rfl) (by kernel_rfl) (fl F i).parts.length (by omega) (by omega)
          have HC0 : Hid (C9 ws (fl F i).parts (.int .i64 0) (ws.alloc (.cells C4.toArray 83))) := Lib.hid ⟨0, Nat.zero_le _, rfl, (Kept.refl _).alloc _, C4, Blk.new _ _ _, l4, o4, fun p hp => absurd hp (by omega), fun p _ hp => g4 10 (.bool false) (by omega) (by kernel_rfl) p hp⟩
          clear g4 l4 o4
          go_wp2_with fail
          clear m4 z3 z4
          generalize ws.alloc (.cells C4.toArray 83) = wb2 at *
          go_loopw [14] (fun t14 W => C9 ws (fl F i).parts t14 W) (fun t14 _ => (fl F i).parts.length - (intOf t14).toNat)
          case atStart => exact HC0.out
          case round =>
            obtain ⟨j, hj, rfl, hPq⟩ := hrel
            obtain ⟨wp, rfl⟩ : ∃ wp : World, wp = wr := ⟨_, rfl⟩
            have HPq := Lib.hid hPq
            clear hPq HC0
            have z4 : wp.cell? ⟨bx, 4, none⟩ = some (.slice pa (fl F i).parts.length pc) := (HBX.out.kept (HRQ.out.kept.trans HPq.out.kept)).cell 4
            have HKW := Lib.hid (HKs.out.trans HPq.out.kept)
            by_cases hlt2 : j < (fl F i).parts.length
            · obtain ⟨b2, off2, rfl, _, ra2, rc2, da, dc, c0, c1, c2, c3, ⟨hr3, hr4, _⟩, ⟨hd3, hd4, _⟩, hXX, hDD⟩ := PartsC.at_ HP.out hlt2
              have HXX := Lib.hid hXX
              have HDD := Lib.hid hDD
              have d0 := HKW.out.cell c0
              have d1 := HKW.out.cell c1
              have d2 := HKW.out.cell c2
              have d3 := HKW.out.cell c3
              have j0 : (j : Int) < ((fl F i).parts.length : Int) := by omega
              have hl1 : (prt (fl F i).parts j).recs.length ≤ 262144 := (HLk.out j hlt2).1
              have hl2 : (prt (fl F i).parts j).deps.length ≤ 262144 := (HLk.out j hlt2).2
              have HKc := Lib.hid ((Kept.refl wp).alloc (.cells #[.slice ra2 (prt (fl F i).parts j).recs.length rc2, .slice da (prt (fl F i).parts j).deps.length dc, .bool (prt (fl F i).parts j).rem, .bool (prt (fl F i).parts j).force] 135))
              have HBY : Hid (Blk (wp.alloc (.cells #[.slice ra2 (prt (fl F i).parts j).recs.length rc2, .slice da (prt (fl F i).parts j).deps.length dc, .bool (prt (fl F i).parts j).rem, .bool (prt (fl F i).parts j).force] 135)) wp.heap.size 135 [.slice ra2 (prt (fl F i).parts j).recs.length rc2, .slice da (prt (fl F i).parts j).deps.length dc, .bool (prt (fl F i).parts j).rem, .bool (prt (fl F i).parts j).force]) := Lib.hid (Blk.new wp 135 _)
              have HSY : Hid (ws.heap.size + 1 ≤ wp.heap.size) := Lib.hid (by obtain ⟨cs, q, _⟩ := HPq.out.row; exact q.lt)
              clear hXX hDD c0 c1 c2 c3
              go_upto_region 22 with fail
              clear d0 d1 d2 d3 z4
              have HKY := Lib.hid (HKW.out.trans HKc.out)
              have HSQ : Hid (ws.heap.size + 1 ≤ (wp.alloc (.cells #[.slice ra2 (prt (fl F i).parts j).recs.length rc2, .slice da (prt (fl F i).parts j).deps.length dc, .bool (prt (fl F i).parts j).rem, .bool (prt (fl F i).parts j).force] 135)).heap.size) := Lib.hid (Nat.le_trans HSY.out HKc.out.size)
              generalize wp.alloc (.cells #[.slice ra2 (prt (fl F i).parts j).recs.length rc2, .slice da (prt (fl F i).parts j).deps.length dc, .bool (prt (fl F i).parts j).rem, .bool (prt (fl F i).parts j).force] 135) = wq at *
              generalize wp.heap.size = by_ at *
              have y0 : wq.cell? ⟨by_, 0, none⟩ = some (.slice ra2 (prt (fl F i).parts j).recs.length rc2) := HBY.out.cell 0
              obtain ⟨C5, l5, g5, m5⟩ := makeN (T := 76) (E := 23) (size := 1) (bytes := 4) Try.underlying76 (by kernel_rfl) (prt (fl F i).parts j).recs.length (by omega) (by omega)
              have HD0 : Hid (D9 wq (prt (fl F i).parts j).recs (.int .i64 0) (wq.alloc (.cells C5.toArray 23))) := Lib.hid ⟨0, Nat.zero_le _, rfl, Cp.start l5⟩
              clear g5 l5
              go_wp2_with fail
              clear m5 y0
              generalize wq.alloc (.cells C5.toArray 23) = wb3 at *
              go_loopw [17] (fun t17 W => D9 wq (prt (fl F i).parts j).recs t17 W) (fun t17 _ => (prt (fl F i).parts j).recs.length - (intOf t17).toNat)
              case atStart => exact HD0.out
              case round =>
                obtain ⟨q, hq, rfl, hC⟩ := hrel
                obtain ⟨wi, rfl⟩ : ∃ wi : World, wi = wr := ⟨_, rfl⟩
                have HC := Lib.hid hC
                clear hC HD0
                have y0 : wi.cell? ⟨by_, 0, none⟩ = some (.slice ra2 (prt (fl F i).parts j).recs.length rc2) := (HBY.out.kept HC.out.kept).cell 0
                by_cases hlt3 : q < (prt (fl F i).parts j).recs.length
                · obtain ⟨b3, off3, rfl, _, hq3⟩ := Sl.at_ (HXX.out.kept (HKY.out.trans HC.out.kept)) hlt3
                  obtain ⟨s0, _⟩ := hq3
                  simp only [Nat.mul_one] at s0
                  have q0 : (q : Int) < ((prt (fl F i).parts j).recs.length : Int) := by omega
                  have HNX := Lib.hid (HC.out.step1 hlt3)
                  simp only [Nat.mul_one, Nat.add_zero] at HNX
                  obtain ⟨v0, p0, f0⟩ := HC.out.has (j := 0) hlt3 (by omega)
                  simp only [Nat.mul_one, Nat.add_zero] at p0 f0
                  go_wp2_with fail
                  go_roundw
                  case rel => exact ⟨q + 1, by omega, by go_num, HNX.out⟩
                  case measure => simp [intOf]; omega
                · obtain rfl : q = (prt (fl F i).parts j).recs.length := by omega
                  have HID := Lib.hid (nats_blk HC.out)
                  have HKI := Lib.hid HC.out.kept
                  have y1 : wi.cell? ⟨by_, 1, none⟩ = some (.slice da (prt (fl F i).parts j).deps.length dc) := (HBY.out.kept HKI.out).cell 1
                  clear HC HXX
                  obtain ⟨C6, l6, g6, m6⟩ := makeN (T := 81) (E := 150) (size := 2) (bytes := 8) Try.underlying81 (by kernel_rfl) (prt (fl F i).parts j).deps.length (by omega) (by omega)
                  have HE0 : Hid (E9 wi (prt (fl F i).parts j).deps (.int .i64 0) (wi.alloc (.cells C6.toArray 150))) := Lib.hid ⟨0, Nat.zero_le _, rfl, Cp.start l6⟩
                  clear g6 l6
                  go_wp2_with fail
                  clear m6 y0 y1
                  generalize wi.alloc (.cells C6.toArray 150) = wb4 at *
                  go_loopw [19] (fun t19 W => E9 wi (prt (fl F i).parts j).deps t19 W) (fun t19 _ => (prt (fl F i).parts j).deps.length - (intOf t19).toNat)
                  case atStart => exact HE0.out
                  case round =>
                    obtain ⟨q, hq, rfl, hC⟩ := hrel
                    obtain ⟨we, rfl⟩ : ∃ we : World, we = wr := ⟨_, rfl⟩
                    have HC := Lib.hid hC
                    clear hC HE0
                    have HKE := Lib.hid (HKI.out.trans HC.out.kept)
                    have y1 : we.cell? ⟨by_, 1, none⟩ = some (.slice da (prt (fl F i).parts j).deps.length dc) := (HBY.out.kept HKE.out).cell 1
                    by_cases hlt3 : q < (prt (fl F i).parts j).deps.length
                    · obtain ⟨b3, off3, rfl, _, hq3⟩ := Sl.at_ (HDD.out.kept (HKY.out.trans HKI.out)) hlt3
                      obtain ⟨s0, s1, _⟩ := hq3
                      have t0 := HC.out.kept.cell s0
                      have t1 := HC.out.kept.cell s1
                      have HK1 := Lib.hid (HC.out.kept.setCell (p := ⟨wi.heap.size, q * 2, none⟩) (Nat.le_refl _) (.int .u32 ((lk.dep (prt (fl F i).parts j).deps q).1 : Int)))
                      have t2 := HK1.out.cell s1
                      have y2 : (we.setCell ⟨wi.heap.size, q * 2, none⟩ (.int .u32 ((lk.dep (prt (fl F i).parts j).deps q).1 : Int))).cell? ⟨by_, 1, none⟩ = some (.slice (some ⟨b3, off3, none⟩) (prt (fl F i).parts j).deps.length dc) := ((HBY.out.kept HKI.out).kept HK1.out).cell 1
                      have q0 : (q : Int) < ((prt (fl F i).parts j).deps.length : Int) := by omega
                      have HNX := Lib.hid (HC.out.step2 hlt3)
                      obtain ⟨v0, p0, f0⟩ := HC.out.has (j := 0) hlt3 (by omega)
                      obtain ⟨v1, p1, f1⟩ := HC.out.has (j := 1) hlt3 (by omega)
                      simp only [Nat.add_zero] at p0 f0
                      clear s0 s1
                      go_wp2_with fail
                      go_roundw
                      case rel => exact ⟨q + 1, by omega, by go_num, HNX.out⟩
                      case measure => simp [intOf]; omega
                    · obtain rfl : q = (prt (fl F i).parts j).deps.length := by omega
                      have HDB := Lib.hid (deps_blk HC.out)
                      have HPQ := HPq.out.kept2 (HKc.out.trans HKE.out)
                      have HNX := Lib.hid (HPQ.step hlt2 (by have := HSQ.out; omega) (Nat.le_trans HSQ.out HKI.out.size) (HID.out.kept HC.out.kept) HDB.out)
                      unfold laidP at HNX
                      have HBYE := HBY.out.kept HKE.out
                      have hne : by_ ≠ ws.heap.size := by have := HSY.out; omega
                      have x2 := ((HBYE.far (p := ⟨ws.heap.size, j * 11 + 2, none⟩) hne (.slice (some ⟨wq.heap.size, 0, none⟩) (prt (fl F i).parts j).recs.length (prt (fl F i).parts j).recs.length)).far (p := ⟨ws.heap.size, j * 11 + 7, none⟩) hne (.slice (some ⟨wi.heap.size, 0, none⟩) (prt (fl F i).parts j).deps.length (prt (fl F i).parts j).deps.length)).cell 2
                      have x3 := (((HBYE.far (p := ⟨ws.heap.size, j * 11 + 2, none⟩) hne (.slice (some ⟨wq.heap.size, 0, none⟩) (prt (fl F i).parts j).recs.length (prt (fl F i).parts j).recs.length)).far (p := ⟨ws.heap.size, j * 11 + 7, none⟩) hne (.slice (some ⟨wi.heap.size, 0, none⟩) (prt (fl F i).parts j).deps.length (prt (fl F i).parts j).deps.length)).far (p := ⟨ws.heap.size, j * 11 + 8, none⟩) hne (.bool (prt (fl F i).parts j).rem)).cell 3
                      simp only [List.getElem?_cons_succ, List.getElem?_cons_zero] at x2 x3
                      obtain ⟨v0, p0, f0⟩ := HPQ.has hlt2 (o := 2) (by omega)
                      obtain ⟨v1, p1, f1⟩ := HPQ.has hlt2 (o := 7) (by omega)
                      obtain ⟨v2, p2, f2⟩ := HPQ.has hlt2 (o := 8) (by omega)
                      obtain ⟨v3, p3, f3⟩ := HPQ.has hlt2 (o := 9) (by omega)
                      clear HPQ HBYE hne
                      go_wp2_with fail
                      go_roundw
                      case rel => exact ⟨j + 1, by omega, by go_num, HNX.out⟩
                      case measure => simp [intOf]; omega
            · obtain rfl : j = (fl F i).parts.length := by omega
              have hj1 : Blk (wp.alloc (.cells CS 131)) wp.heap.size 131 CS.toList := by have := Blk.new wp 131 CS.toList; simpa using this
              have HJ1 := Lib.hid hj1
              have HK1 := Lib.hid ((Kept.refl wp).alloc (.cells CS 131))
              have hl64 : CS.toList.length = 64 := by rw [Array.length_toList]; exact LS.out.1
              have hc63 : CS.toList[63]? = some (.int .u32 0) := by simpa using LS.out.2
              have HL64 := Lib.hid hl64
              have HC63 := Lib.hid hc63
              have HLW : Hid (w.heap.size + 2 ≤ wa.heap.size ∧ wa.heap.size ≤ wp.heap.size ∧ wo.heap.size ≤ ws.heap.size) := Lib.hid ⟨Nat.le_trans HB.out.size HKb.out.size, Nat.le_trans HRQ.out.kept.size HPq.out.kept.size, Nat.le_trans HKb.out.size HRQ.out.kept.size⟩
              clear hj1 hl64 hc63
              go_upto_region 38 with (with_reducible refine wp_build0 rfl 131 rfl CS HCS.out ?_)
              clear z4
              generalize wp.alloc (.cells CS 131) = w8 at *
              generalize hjb : wp.heap.size = jb at *
              have HJB := Lib.hid hjb
              clear hjb
              obtain ⟨v4, p1, p2⟩ := HJ1.out.has (i := 20) (by rw [HL64.out]; omega)
              have HJ2 := Lib.hid (HJ1.out.set 20 (.slice (some ⟨ws.heap.size, 0, none⟩) (fl F i).parts.length (fl F i).parts.length))
              have HK2 := Lib.hid (HK1.out.setCell (p := ⟨jb, 20, none⟩) (by have := HJB.out; show wp.heap.size ≤ jb; omega) (.slice (some ⟨ws.heap.size, 0, none⟩) (fl F i).parts.length (fl F i).parts.length))
              go_upto_region 39 with fail
              generalize w8.setCell ⟨jb, 20, none⟩ (.slice (some ⟨ws.heap.size, 0, none⟩) (fl F i).parts.length (fl F i).parts.length) = w9 at *
              clear p1 p2 HJ1 HK1
              obtain ⟨v5, p3, p4⟩ := HJ2.out.has (i := 35) (by rw [List.length_set, HL64.out]; omega)
              have HJ3 := Lib.hid (HJ2.out.set 35 (.slice (some ⟨wa.heap.size, 0, none⟩) (fl F i).recs.length (fl F i).recs.length))
              have HK3 := Lib.hid (HK2.out.setCell (p := ⟨jb, 35, none⟩) (by have := HJB.out; show wp.heap.size ≤ jb; omega) (.slice (some ⟨wa.heap.size, 0, none⟩) (fl F i).recs.length (fl F i).recs.length))
              go_upto_region 40 with fail
              generalize w9.setCell ⟨jb, 35, none⟩ (.slice (some ⟨wa.heap.size, 0, none⟩) (fl F i).recs.length (fl F i).recs.length) = wd at *
              clear p3 p4 HJ2 HK2
              have z0 : wd.cell? ⟨bx, 0, none⟩ = some (.int .i32 (fl F i).css) := ((HBX.out.kept (HRQ.out.kept.trans HPq.out.kept)).kept HK3.out).cell 0
              go_upto_if 178 with (fail)
              go_cut [] (fun W => Hid (R92 wp jb ws.heap.size (fl F i).parts.length wa.heap.size (fl F i).recs.length (fl F i).css W))
              case first => as_aux_lemma =>
                have HXO : Hid (-2147483648 ≤ (fl F i).css ∧ (fl F i).css ≤ 2147483647) := HX
                by_cases ht : 0 ≤ (fl F i).css
                · have HT := Lib.hid (ixv_pos ht)
                  generalize (fl F i).css = y at *
                  have hx1 := HXO.out.1
                  have hx2 := HXO.out.2
                  have W1 : IntKind.u32.wrap y = y := by rw [IntKind.wrap_u32]; omega
                  go_wp2_with fail
                  refine (make y ht (by omega) wd).mono ?_
                  rintro e w3 ⟨rfl, k3⟩
                  have HJ4 := Lib.hid (HJ3.out.kept k3)
                  have HK4 := Lib.hid (HK3.out.trans k3)
                  obtain ⟨v6, p5, p6⟩ := HJ4.out.has (i := 63) (by rw [List.length_set, List.length_set, HL64.out]; omega)
                  clear z0 k3
                  go_wp2_with fail
                  go_meet
                  exact Lib.hid ⟨_, HJ4.out.set 63 _, by rw [List.getElem?_set_ne (by omega), List.getElem?_set_ne (by omega), List.getElem?_set_self (by rw [HL64.out]; omega)], by rw [List.getElem?_set_ne (by omega), List.getElem?_set_self (by rw [List.length_set, HL64.out]; omega)], by rw [HT.out, List.getElem?_set_self (by rw [List.length_set, List.length_set, HL64.out]; omega)], HK4.out.setCell (p := ⟨jb, 63, none⟩) (by have := HJB.out; show wp.heap.size ≤ jb; omega) _⟩
                · have HT := Lib.hid (ixv_neg (show (fl F i).css < 0 by omega))
                  generalize (fl F i).css = y at *
                  have ht2 : y < 0 := by omega
                  go_wp2_with fail
                  go_meet
                  exact Lib.hid ⟨_, HJ3.out, by rw [List.getElem?_set_ne (by omega), List.getElem?_set_self (by rw [HL64.out]; omega)], by rw [List.getElem?_set_self (by rw [List.length_set, HL64.out]; omega)], by rw [HT.out, List.getElem?_set_ne (by omega), List.getElem?_set_ne (by omega)]; exact HC63.out, HK3.out⟩
              case rest => as_aux_lemma =>
                obtain ⟨jcs, hj5, hq1, hq2, hq3, hk5⟩ := hcut.out
                obtain ⟨wd2, rfl⟩ : ∃ wd2 : World, wd2 = wc := ⟨_, rfl⟩
                have HK5 := Lib.hid hk5
                have HONE := Lib.hid (oneJ_of (lo := w.heap.size + 2) HRQ.out HPq.out hk5 hj5 (by have := HLW.out; have := HJB.out; omega) HLW.out.1 hq1 hq2 hq3)
                have HKo := Lib.hid (HKb.out.trans (HRQ.out.kept.trans (HPq.out.kept.trans hk5)))
                clear hcut hj5 hq1 hq2 hq3 hk5 z0 HJ3 HK3
                have HBX5 := Lib.hid (HBX.out.kept (HRQ.out.kept.trans (HPq.out.kept.trans HK5.out)))
                have HNB : Hid (bx ≠ w.heap.size ∧ bx ≠ w.heap.size + 1) := Lib.hid (by have := HB.out.size; have := HBXE.out; omega)
                obtain ⟨r2, pr2, pl2, _⟩ := (HB.out.kept2 HKo.out).reprs
                obtain ⟨v5, p3, p4⟩ := pr2.has (i := i) (by rw [pl2]; exact HLT.out)
                clear pr2 pl2
                go_upto_region 43 with fail
                go_wp2_with fail
                refine (jsFile _ jb).mono ?_
                rintro e wB ⟨A, rfl, hA, kB⟩
                obtain ⟨e0, e20, e23, hM⟩ := HB.out.mid HKo.out HONE.out HLW.out.2.2 HLT.out kB hA
                have HM := Lib.hid hM
                have HBXM := Lib.hid (Blk.setCellsFar HNB.out.1 A.toList (i * 24) wB _ ((HBX5.out.far (p := ⟨w.heap.size + 1, i, none⟩) HNB.out.2 (.pointer (some ⟨jb, 0, none⟩))).kept kB))
                obtain ⟨c7, q7, l7, _⟩ := (HB.out.kept2 HKo.out).files
                have q8 := (q7.far (p := ⟨w.heap.size + 1, i, none⟩) (by show w.heap.size ≠ w.heap.size + 1; omega) (.pointer (some ⟨jb, 0, none⟩))).kept kB
                have hth : wB.there w.heap.size (i * 24) A.size := q8.there (by rw [hA.1, l7]; have := Nat.mul_le_mul_right 24 (show i + 1 ≤ F.length from HLT.out); omega)
                have hsA : (Try.prog.info? 60).map (·.size) = some A.size := by rw [hA.1]; exact sizeF60
                have hoA : A.all (·.oneCell') = true := hA.2.2.2.1
                clear q7 l7 q8 kB hA hM p3 p4
                go_upto_region 44 with (with_reducible refine wpList_store_mid rfl 60 (.tmp 194) (.tmp 193) rfl w.heap.size (i * 24) A rfl rfl hth hsA hoA ?_)
                generalize wB.setCells w.heap.size (i * 24) A.toList = wM at *
                clear hth hsA hoA
                have z1 : wM.cell? ⟨bx, 1, none⟩ = some (.bool (fl F i).side) := HBXM.out.cell 1
                obtain ⟨v7, p3, p4⟩ := HM.out.has HLT.out (o := 7) (by omega)
                go_upto_if 197 with (fail)
                go_cut [] (fun W => Hid (R93 w F u i J EB PB jb ws.heap.size bx [.int .i32 (fl F i).css, .bool (fl F i).side, .bool (fl F i).live, .slice ra (fl F i).recs.length rc, .slice pa (fl F i).parts.length pc] W))
                case first => as_aux_lemma =>
                  cases hsd : (fl F i).side
                  · rw [hsd] at z1
                    have HD : Hid (R93 w F u i J EB PB jb ws.heap.size bx [.int .i32 (fl F i).css, .bool (fl F i).side, .bool (fl F i).live, .slice ra (fl F i).recs.length rc, .slice pa (fl F i).parts.length pc] (wM.setCell ⟨w.heap.size, i * 24 + 7, none⟩ (.int .u8 1))) := Lib.hid ⟨e0, e20, e23, by rw [hsd]; exact HM.out.set7 HLT.out (.int .u8 1), HBXM.out.far (p := ⟨w.heap.size, i * 24 + 7, none⟩) HNB.out.1 _⟩
                    go_wp2_with fail
                    go_meet
                    exact HD
                  · rw [hsd] at z1
                    have HD : Hid (R93 w F u i J EB PB jb ws.heap.size bx [.int .i32 (fl F i).css, .bool (fl F i).side, .bool (fl F i).live, .slice ra (fl F i).recs.length rc, .slice pa (fl F i).parts.length pc] wM) := Lib.hid ⟨e0, e20, e23, by rw [hsd]; exact HM.out, HBXM.out⟩
                    go_wp2_with fail
                    go_meet
                    exact HD
                case rest => as_aux_lemma =>
                  obtain ⟨e0, e20, e23, hM2, hBX2⟩ := hcut.out
                  have HM2 := Lib.hid hM2
                  have HBX2 := Lib.hid hBX2
                  clear hcut hM2 hBX2 z1 p3 p4 HM HBXM
                  obtain ⟨wN, rfl⟩ : ∃ wN : World, wN = wc := ⟨_, rfl⟩
                  go_wp2_with fail
                  refine (newBits wN).mono ?_
                  rintro e wE ⟨g, rfl, hg, hBE, kE⟩
                  have HM3 := Lib.hid (HM2.out.kept2 kE)
                  have HNG : Hid (g ≠ w.heap.size ∧ w.heap.size + 2 ≤ g ∧ ∀ k, k < i → EB k ≠ g) := Lib.hid (by
                    obtain ⟨cs, hq, _⟩ := HM2.out.reprs
                    have := hq.lt
                    refine ⟨by omega, by omega, fun k hk e => ?_⟩
                    have := (HM2.out.one k hk).2.2.lt
                    omega)
                  have HM4 := Lib.hid (HM3.out.set0 HLT.out (.slice (some ⟨g, 0, none⟩) 32 32))
                  have HM5 := Lib.hid (HM4.out.set20 HLT.out (.int .u32 4294967295))
                  obtain ⟨v0, a0, b0⟩ := HM3.out.has HLT.out (o := 0) (by omega)
                  obtain ⟨v1, a1, b1⟩ := HM4.out.has HLT.out (o := 20) (by omega)
                  obtain ⟨v2, a2, b2⟩ := HM5.out.has HLT.out (o := 23) (by omega)
                  simp only [Nat.add_zero] at a0 b0
                  have hx2 := (((HBX2.out.kept kE).far (p := ⟨w.heap.size, i * 24, none⟩) HNB.out.1 (.slice (some ⟨g, 0, none⟩) 32 32)).far (p := ⟨w.heap.size, i * 24 + 20, none⟩) HNB.out.1 (.int .u32 4294967295)).cell 2
                  simp only [List.getElem?_cons_succ, List.getElem?_cons_zero] at hx2
                  have HBE := Lib.hid (((hBE.far (p := ⟨w.heap.size, i * 24, none⟩) HNG.out.1 (.slice (some ⟨g, 0, none⟩) 32 32)).far (p := ⟨w.heap.size, i * 24 + 20, none⟩) HNG.out.1 (.int .u32 4294967295)).far (p := ⟨w.heap.size, i * 24 + 23, none⟩) HNG.out.1 (.bool (u && (fl F i).live)))
                  have HNX := Lib.hid ((HM5.out.set23 HLT.out (.bool (u && (fl F i).live))).done HBE.out HNG.out.2.1 HNG.out.2.2)
                  clear hg hBE kE HM2 HBX2 HM3 HM4 HM5 HBE
                  cases u
                  · simp only [Bool.false_and] at HNX
                    go_wp2_with fail
                    go_roundw
                    case rel => exact ⟨i + 1, _, _, _, HLT.out, by go_num, HNX.out⟩
                    case measure => simp [intOf]; omega
                  · simp only [Bool.true_and] at HNX
                    go_wp2_with fail
                    go_roundw
                    case rel => exact ⟨i + 1, _, _, _, HLT.out, by go_num, HNX.out⟩
                    case measure => simp [intOf]; omega
    · obtain rfl : i = n := by omega
      go_wp2_with fail
      go_ret2
      exact ⟨by rw [HN0.out]; rfl, J, EB, PB, by rw [HN0.out]; exact HB.out⟩
end Go.Proofs.Ytgnccfofhcbjjaa.lk
