/-
  The walk of lkB1Clone over this seat's program.
  Conditions: the files are readable and small.
-/
import Derived.Test.YtgnccfofhcbjjaaGw
import Derived.Test.YtgnccfofhcbjjaaGc
import Derived.Lib.LazyBuf
namespace Go.Proofs.Ytgnccfofhcbjjaa.lk
open Go.ChangeShapes Go.WideShapes Go.ChangeAt Go.RowKit
open kit dfs

def Cl (w : World) (F : Ct) (e : Ending) (w' : World) : Prop := (∃ v, e = .returned v ∧ FilesC w' v F) ∧ Kept w w'
def A8 (w : World) (F : Ct) (t4 : Value) (W : World) : Prop := ∃ k : Nat, k ≤ F.length ∧ t4 = .int .i64 (k : Int) ∧ Fk w W F k
def B8 (w : World) (R : List Rec) (t7 : Value) (W : World) : Prop := ∃ q : Nat, q ≤ R.length ∧ t7 = .int .i64 (q : Int) ∧ Cp w W 137 3 R.length (recV R) q
def C8 (w : World) (P : List Prt) (t9 : Value) (W : World) : Prop := ∃ q : Nat, q ≤ P.length ∧ t9 = .int .i64 (q : Int) ∧ Pk w W P q
def D8 (w : World) (X : List Nat) (t12 : Value) (W : World) : Prop := ∃ q : Nat, q ≤ X.length ∧ t12 = .int .i64 (q : Int) ∧ Cp w W 23 1 X.length (natV X) q
def E8 (w : World) (X : List (Nat × Nat)) (t14 : Value) (W : World) : Prop := ∃ q : Nat, q ≤ X.length ∧ t14 = .int .i64 (q : Int) ∧ Cp w W 139 2 X.length (depV X) q
/-- the records of file k are copied -/
def C81 (w : World) (F : Ct) (k bx : Nat) (BX : List Value) (pv : Value) (W : World) : Prop := ∃ rv, Fm w W F k rv pv ∧ RecsN (w.heap.size + 1) W rv (fl F k).recs ∧ Blk W bx 66 BX
/-- the record indices of part j are copied -/
def C82 (w : World) (P : List Prt) (j bx : Nat) (BX : List Value) (dv : Value) (W : World) : Prop := ∃ rv, Pm w W P j rv dv ∧ U32sN (w.heap.size + 1) W rv (prt P j).recs ∧ Blk W bx 135 BX
theorem C81.start {w W : World} {F : Ct} {k bx : Nat} {BX : List Value} {rv pv : Value} (h : Fm w W F k rv pv) (hr : RecsN (w.heap.size + 1) W rv (fl F k).recs) (hb : Blk W bx 66 BX) : C81 w F k bx BX pv W := ⟨rv, h, hr, hb⟩
theorem C81.copied {w wl W : World} {F : Ct} {k bx : Nat} {BX : List Value} {rv pv : Value} (h : Fm w wl F k rv pv) (hb : Blk wl bx 66 BX) (hx : w.heap.size < bx) (hk : k < F.length) (hc : Cp wl W 137 3 (fl F k).recs.length (recV (fl F k).recs) (fl F k).recs.length)
    (hm : (fl F k).recs.length ≤ 262144) (hR : ∀ i, i < (fl F k).recs.length → -2147483648 ≤ (rcd (fl F k).recs i).tgt ∧ (rcd (fl F k).recs i).tgt ≤ 2147483647 ∧ (rcd (fl F k).recs i).kind ≤ 255) :
    C81 w F k bx BX pv (W.setCell ⟨w.heap.size, k * 5 + 3, none⟩ (.slice (some ⟨wl.heap.size, 0, none⟩) (fl F k).recs.length (fl F k).recs.length)) :=
  ⟨_, (h.kept2 hc.kept).setR hk _, (recs_fin hc (by obtain ⟨cs, q, _⟩ := h.row; exact q.lt) hm hR).above Pm.above, (hb.kept hc.kept).far (by show bx ≠ w.heap.size; omega) _⟩
theorem C82.copied {w wl W : World} {P : List Prt} {j bx : Nat} {BX : List Value} {rv dv : Value} (h : Pm w wl P j rv dv) (hb : Blk wl bx 135 BX) (hx : w.heap.size < bx) (hk : j < P.length) (hc : Cp wl W 23 1 (prt P j).recs.length (natV (prt P j).recs) (prt P j).recs.length)
    (hm : (prt P j).recs.length ≤ 262144) (hR : ∀ i, i < (prt P j).recs.length → nat (prt P j).recs i ≤ 4294967295) :
    C82 w P j bx BX dv (W.setCell ⟨w.heap.size, j * 4, none⟩ (.slice (some ⟨wl.heap.size, 0, none⟩) (prt P j).recs.length (prt P j).recs.length)) :=
  ⟨_, (h.kept2 hc.kept).setR hk _, (nats_fin hc (by obtain ⟨cs, q, _⟩ := h.row; exact q.lt) hm hR).above Pm.above, (hb.kept hc.kept).far (by show bx ≠ w.heap.size; omega) _⟩
theorem Pm.deps {w wl W : World} {P : List Prt} {j : Nat} {rv dv : Value} (h : Pm w wl P j rv dv) (hu : U32sN (w.heap.size + 1) wl rv (prt P j).recs) (hk : j < P.length) (hc : Cp wl W 139 2 (prt P j).deps.length (depV (prt P j).deps) (prt P j).deps.length)
    (hm : (prt P j).deps.length ≤ 262144) (hR : ∀ i, i < (prt P j).deps.length → (lk.dep (prt P j).deps i).1 ≤ 4294967295 ∧ (lk.dep (prt P j).deps i).2 ≤ 4294967295) :
    Pk w (W.setCell ⟨w.heap.size, j * 4 + 1, none⟩ (.slice (some ⟨wl.heap.size, 0, none⟩) (prt P j).deps.length (prt P j).deps.length)) P (j + 1) :=
  ((h.kept2 hc.kept).setD hk _).done ((hu.above (Above.of_kept hc.kept)).above Pm.above) ((deps_fin hc (by obtain ⟨cs, q, _⟩ := h.row; exact q.lt) hm hR).above Pm.above)
theorem Fm.parts {w wl W : World} {F : Ct} {k : Nat} {rv pv : Value} (h : Fm w wl F k rv pv) (hu : RecsN (w.heap.size + 1) wl rv (fl F k).recs) (hk : k < F.length) (hx : -2147483648 ≤ (fl F k).css ∧ (fl F k).css ≤ 2147483647) (hc : Pk wl W (fl F k).parts (fl F k).parts.length) (hm : (fl F k).parts.length ≤ 262144) :
    Fk w (W.setCell ⟨w.heap.size, k * 5 + 4, none⟩ (.slice (some ⟨wl.heap.size, 0, none⟩) (fl F k).parts.length (fl F k).parts.length)) F (k + 1) :=
  ((h.kept2 hc.kept).setP hk _).done hx ((hu.above (Above.of_kept hc.kept)).above Pm.above) ((hc.fin (by obtain ⟨cs, q, _⟩ := h.row; exact q.lt) hm).above Pm.above)
theorem RecsC.bd {w : World} {v : Value} {R : List Rec} (h : RecsC w v R) : ∀ i, i < R.length → -2147483648 ≤ (rcd R i).tgt ∧ (rcd R i).tgt ≤ 2147483647 ∧ (rcd R i).kind ≤ 255 := fun i hi => by
  obtain ⟨a, c, rfl, _, _, _, h5⟩ := h
  obtain ⟨b, off, _, _, h6⟩ := h5 (by omega)
  exact (h6 i hi).2.2.2
theorem U32sC.bd {w : World} {v : Value} {R : List Nat} (h : U32sC w v R) : ∀ i, i < R.length → nat R i ≤ 4294967295 := fun i hi => by
  obtain ⟨a, c, rfl, _, _, _, h5⟩ := h
  obtain ⟨b, off, _, _, h6⟩ := h5 (by omega)
  exact (h6 i hi).2
theorem DepsC.bd {w : World} {v : Value} {R : List (Nat × Nat)} (h : DepsC w v R) : ∀ i, i < R.length → (lk.dep R i).1 ≤ 4294967295 ∧ (lk.dep R i).2 ≤ 4294967295 := fun i hi => by
  obtain ⟨a, c, rfl, _, _, _, h5⟩ := h
  obtain ⟨b, off, _, _, h6⟩ := h5 (by omega)
  exact (h6 i hi).2.2

set_option maxRecDepth 100000 in
set_option maxHeartbeats 16000000 in
theorem clone (w : World) (a : Option Addr) (n c : Nat) (F : Ct) (h : FilesC w (.slice a n c) F) (hF : F.length = n) (hn : n ≤ 18724) (hl : Lens F 262144 n) :
    Calls Try.prog 8 #[.slice a n c] w (Cl w F) := by
  have heq := fun w : World => Go.run_eql_slice_nil (P := Try.prog) w 22 66 a n c Try.underlying22
  cases a with
  | none =>
    simp only [Option.isNone] at heq
    have hnil : FilesC w (.slice none 0 0) F := by
      obtain ⟨a', c', e, h1, h2, h3, h4⟩ := h
      injection e with e1 e2 e3
      subst e1 e2 e3
      have hc := h3 rfl
      have hz : F.length = 0 := by omega
      unfold FilesC; rw [hz]; exact Sl.nil _ _ _
    have HF := Lib.hid hnil
    clear h hl hnil
    go_enter Try.func8, Try.ntmps8
    go_wp2_with fail
    go_ret
    exact ⟨⟨_, rfl, HF.out⟩, Kept.refl _⟩
  | some ad =>
    simp only [Option.isNone] at heq
    obtain ⟨C1, l1, g1, m1⟩ := makeN (T := 22) (E := 66) (size := 5) (bytes := 56) Try.underlying22 (by kernel_rfl) n (by omega) (by omega)
    have HA0 : Hid (A8 w F (.int .i64 0) (w.alloc (.cells C1.toArray 66))) := Lib.hid ⟨0, Nat.zero_le _, rfl, Fk.start (by rw [hF]; exact l1)⟩
    have HF := Lib.hid h
    have HL := Lib.hid hl
    have HN0 := Lib.hid hF
    clear h hl g1 l1 hF
    go_enter Try.func8, Try.ntmps8
    go_wp2_with fail
    clear m1 heq
    generalize w.alloc (.cells C1.toArray 66) = wa at *
    go_loopw [4] (fun t4 W => A8 w F t4 W) (fun t4 _ => n - (intOf t4).toNat)
    case atStart => exact HA0.out
    case round =>
      obtain ⟨k, hk, rfl, hFk⟩ := hrel
      rw [HN0.out] at hk
      obtain ⟨wo, rfl⟩ : ∃ wo : World, wo = wr := ⟨_, rfl⟩
      have HFk := Lib.hid hFk
      clear hFk HA0
      by_cases hlt : k < n
      · obtain ⟨b, off, e0, hb, ra, rc, pa, pc, c0, c1, c2, c3, c4, hx, ⟨hr1, hr2, hr3⟩, ⟨hp1, hp2, hp3⟩, hR, hP⟩ := HF.out.at_ (k := k) (by rw [HN0.out]; exact hlt)
        cases e0
        have HLT : Hid (k < F.length) := Lib.hid (by rw [HN0.out]; exact hlt)
        have HP := Lib.hid hP
        have HR := Lib.hid hR
        have HX := Lib.hid hx
        have d0 := HFk.out.kept.cell c0
        have d1 := HFk.out.kept.cell c1
        have d2 := HFk.out.kept.cell c2
        have d3 := HFk.out.kept.cell c3
        have d4 := HFk.out.kept.cell c4
        have k0 : (k : Int) < (n : Int) := by omega
        have hrl : (fl F k).recs.length ≤ 262144 := (HL.out k hlt).1
        have hpl : (fl F k).parts.length ≤ 262144 := (HL.out k hlt).2.1
        have HLk := Lib.hid (HL.out k hlt).2.2
        have HKb := Lib.hid ((Kept.refl wo).alloc (.cells #[.int .i32 (fl F k).css, .bool (fl F k).side, .bool (fl F k).live, .slice ra (fl F k).recs.length rc, .slice pa (fl F k).parts.length pc] 66))
        have HBX : Hid (Blk (wo.alloc (.cells #[.int .i32 (fl F k).css, .bool (fl F k).side, .bool (fl F k).live, .slice ra (fl F k).recs.length rc, .slice pa (fl F k).parts.length pc] 66)) wo.heap.size 66 [.int .i32 (fl F k).css, .bool (fl F k).side, .bool (fl F k).live, .slice ra (fl F k).recs.length rc, .slice pa (fl F k).parts.length pc]) := Lib.hid (Blk.new wo 66 _)
        clear hP hR hx hr3 hp3 c0 c1 c2 c3 c4
        go_upto_region 8 with fail
        clear d0 d1 d2 d3 d4
        have HFa := Lib.hid (HFk.out.kept2 HKb.out)
        have HSZ : Hid (w.heap.size < wo.heap.size) := Lib.hid (by obtain ⟨cs, q, _⟩ := HFk.out.row; exact q.lt)
        generalize wo.alloc (.cells #[.int .i32 (fl F k).css, .bool (fl F k).side, .bool (fl F k).live, .slice ra (fl F k).recs.length rc, .slice pa (fl F k).parts.length pc] 66) = wa at *
        generalize wo.heap.size = bx at *
        have z0 : wa.cell? ⟨bx, 0, none⟩ = some (.int .i32 (fl F k).css) := HBX.out.cell 0
        have z1 : wa.cell? ⟨bx, 1, none⟩ = some (.bool (fl F k).side) := HBX.out.cell 1
        have z2 : wa.cell? ⟨bx, 2, none⟩ = some (.bool (fl F k).live) := HBX.out.cell 2
        have z3 : wa.cell? ⟨bx, 3, none⟩ = some (.slice ra (fl F k).recs.length rc) := HBX.out.cell 3
        have z4 : wa.cell? ⟨bx, 4, none⟩ = some (.slice pa (fl F k).parts.length pc) := HBX.out.cell 4
        obtain ⟨v0, p0, f0⟩ := HFa.out.has (i := k) (o := 0) HLT.out (by omega)
        obtain ⟨v1, p1, f1⟩ := HFa.out.has (i := k) (o := 1) HLT.out (by omega)
        obtain ⟨v2, p2, f2⟩ := HFa.out.has (i := k) (o := 2) HLT.out (by omega)
        obtain ⟨v3, p3, f3⟩ := HFa.out.has (i := k) (o := 3) HLT.out (by omega)
        obtain ⟨v4, p4, f4⟩ := HFa.out.has (i := k) (o := 4) HLT.out (by omega)
        simp only [Nat.add_zero] at p0 f0
        go_upto_region 9 with fail
        clear z0 z1 z2 z3 z4 p0 p1 p2 p3 p4 f0 f1 f2 f3 f4
        have HFm := HFa.out.open HLT.out (.slice ra (fl F k).recs.length rc) (.slice pa (fl F k).parts.length pc)
        have HBL := (laid5_above wa (Nat.lt_succ_self w.heap.size) (fl F k) k (.slice ra (fl F k).recs.length rc) (.slice pa (fl F k).parts.length pc)).blk HBX.out HSZ.out
        obtain ⟨wl, hwl⟩ : ∃ wl, wl = laid5 wa w.heap.size (fl F k) k (.slice ra (fl F k).recs.length rc) (.slice pa (fl F k).parts.length pc) := ⟨_, rfl⟩
        rw [← hwl] at HFm HBL
        have HFM := Lib.hid HFm
        have HBXL := Lib.hid HBL
        clear HFm HBL
        unfold laid5 at hwl
        rw [← hwl]
        clear hwl HFa HBX HFk HKb
        have hre := fun w : World => Go.run_eql_slice_nil (P := Try.prog) w 63 137 ra (fl F k).recs.length rc Try.underlying63
        have z3 : wl.cell? ⟨bx, 3, none⟩ = some (.slice ra (fl F k).recs.length rc) := HBXL.out.cell 3
        go_upto_if 36 with (fail)
        go_cut [] (fun W => Hid (C81 w F k bx [.int .i32 (fl F k).css, .bool (fl F k).side, .bool (fl F k).live, .slice ra (fl F k).recs.length rc, .slice pa (fl F k).parts.length pc] (.slice pa (fl F k).parts.length pc) W))
        case first =>
          cases ra with
          | none =>
            simp only [Option.isNone] at hre
            go_wp2_with fail
            go_meet
            exact Lib.hid (C81.start HFM.out (recs_nil (HR.out.kept HFM.out.kept)) HBXL.out)
          | some rd =>
            simp only [Option.isNone] at hre
            obtain ⟨C2, l2, g2, m2⟩ := makeN (T := 63) (E := 137) (size := 3) (bytes := 8) Try.underlying63 (by kernel_rfl) (fl F k).recs.length (by omega) (by omega)
            have HB0 : Hid (B8 wl (fl F k).recs (.int .i64 0) (wl.alloc (.cells C2.toArray 137))) := Lib.hid ⟨0, Nat.zero_le _, rfl, Cp.start l2⟩
            clear g2 l2
            go_wp2_with fail
            clear m2 hre z3
            generalize wl.alloc (.cells C2.toArray 137) = wb at *
            go_loopw [7] (fun t7 W => B8 wl (fl F k).recs t7 W) (fun t7 _ => (fl F k).recs.length - (intOf t7).toNat)
            case atStart => exact HB0.out
            case round =>
              obtain ⟨q, hq, rfl, hC⟩ := hrel
              have HC := Lib.hid hC
              clear hC HB0
              have z3 : wr.cell? ⟨bx, 3, none⟩ = some (.slice (some rd) (fl F k).recs.length rc) := (HBXL.out.kept HC.out.kept).cell 3
              by_cases hlt3 : q < (fl F k).recs.length
              · obtain ⟨b3, off3, e3, _, hq3⟩ := Sl.at_ (HR.out.kept (HFM.out.kept.trans HC.out.kept)) hlt3
                cases e3
                obtain ⟨s0, s1, s2, _⟩ := hq3
                have q0 : (q : Int) < ((fl F k).recs.length : Int) := by omega
                have HNX := Lib.hid (HC.out.step3 hlt3)
                obtain ⟨v0, p0, f0⟩ := HC.out.has (j := 0) hlt3 (by omega)
                obtain ⟨v1, p1, f1⟩ := HC.out.has (j := 1) hlt3 (by omega)
                obtain ⟨v2, p2, f2⟩ := HC.out.has (j := 2) hlt3 (by omega)
                simp only [Nat.add_zero] at p0 f0
                go_wp2_with fail
                go_roundw
                case rel => exact ⟨q + 1, by omega, by go_num, HNX.out⟩
                case measure => simp [intOf]; omega
              · obtain rfl : q = (fl F k).recs.length := by omega
                have HCC := Lib.hid (C81.copied HFM.out HBXL.out HSZ.out HLT.out HC.out hrl HR.out.bd)
                obtain ⟨v3, p3, f3⟩ := (HFM.out.kept2 HC.out.kept).has (i := k) (o := 3) HLT.out (by omega)
                go_wp2_with fail
                go_meet
                exact Lib.hid HCC.out
        case rest =>
          obtain ⟨wu, rfl⟩ : ∃ wu : World, wu = wc := ⟨_, rfl⟩
          obtain ⟨rv, hFm, hRN, hB⟩ := hcut.out
          have HFm := Lib.hid hFm
          have HRN := Lib.hid hRN
          have HB := Lib.hid hB
          clear hFm hRN hB hcut hre z3 HBXL HFM HR
          have hpe := fun w : World => Go.run_eql_slice_nil (P := Try.prog) w 64 135 pa (fl F k).parts.length pc Try.underlying64
          have z4 : wu.cell? ⟨bx, 4, none⟩ = some (.slice pa (fl F k).parts.length pc) := HB.out.cell 4
          cases pa with
          | none =>
            simp only [Option.isNone] at hpe
            have HNX := Lib.hid (HFm.out.done HX.out HRN.out (parts_nil (HP.out.kept HFm.out.kept)))
            go_wp2_with fail
            go_roundw
            case rel => exact ⟨k + 1, HLT.out, by go_num, HNX.out⟩
            case measure => simp [intOf]; omega
          | some pd =>
            simp only [Option.isNone] at hpe
            obtain ⟨C2, l2, g2, m2⟩ := makeN (T := 64) (E := 135) (size := 4) (bytes := 56) Try.underlying64 (by kernel_rfl) (fl F k).parts.length (by omega) (by omega)
            have HB0 : Hid (C8 wu (fl F k).parts (.int .i64 0) (wu.alloc (.cells C2.toArray 135))) := Lib.hid ⟨0, Nat.zero_le _, rfl, Pk.start l2⟩
            clear g2 l2
            go_wp2_with fail
            clear m2 hpe z4
            generalize wu.alloc (.cells C2.toArray 135) = wb at *
            go_loopw [9] (fun t9 W => C8 wu (fl F k).parts t9 W) (fun t9 _ => (fl F k).parts.length - (intOf t9).toNat)
            case atStart => exact HB0.out
            case round =>
              obtain ⟨j, hj, rfl, hC⟩ := hrel
              obtain ⟨wp, rfl⟩ : ∃ wp : World, wp = wr := ⟨_, rfl⟩
              have HPk := Lib.hid hC
              clear hC HB0
              have z4 : wp.cell? ⟨bx, 4, none⟩ = some (.slice (some pd) (fl F k).parts.length pc) := (HB.out.kept HPk.out.kept).cell 4
              have HKW := Lib.hid (HFm.out.kept.trans HPk.out.kept)
              by_cases hlt2 : j < (fl F k).parts.length
              · obtain ⟨b2, off2, e2, _, ra2, rc2, da, dc, c0, c1, c2, c3, ⟨hr3, hr4, _⟩, ⟨hd3, hd4, _⟩, hXX, hDD⟩ := PartsC.at_ HP.out hlt2
                cases e2
                have HXX := Lib.hid hXX
                have HDD := Lib.hid hDD
                have d0 := HKW.out.cell c0
                have d1 := HKW.out.cell c1
                have d2 := HKW.out.cell c2
                have d3 := HKW.out.cell c3
                have j0 : (j : Int) < ((fl F k).parts.length : Int) := by omega
                have hl1 : (prt (fl F k).parts j).recs.length ≤ 262144 := (HLk.out j hlt2).1
                have hl2 : (prt (fl F k).parts j).deps.length ≤ 262144 := (HLk.out j hlt2).2
                have HKc := Lib.hid ((Kept.refl wp).alloc (.cells #[.slice ra2 (prt (fl F k).parts j).recs.length rc2, .slice da (prt (fl F k).parts j).deps.length dc, .bool (prt (fl F k).parts j).rem, .bool (prt (fl F k).parts j).force] 135))
                have HBY : Hid (Blk (wp.alloc (.cells #[.slice ra2 (prt (fl F k).parts j).recs.length rc2, .slice da (prt (fl F k).parts j).deps.length dc, .bool (prt (fl F k).parts j).rem, .bool (prt (fl F k).parts j).force] 135)) wp.heap.size 135 [.slice ra2 (prt (fl F k).parts j).recs.length rc2, .slice da (prt (fl F k).parts j).deps.length dc, .bool (prt (fl F k).parts j).rem, .bool (prt (fl F k).parts j).force]) := Lib.hid (Blk.new wp 135 _)
                clear hXX hDD c0 c1 c2 c3
                go_upto_region 22 with fail
                clear d0 d1 d2 d3 z4
                have HPa := Lib.hid (HPk.out.kept2 HKc.out)
                have HSY : Hid (wu.heap.size < wp.heap.size) := Lib.hid (by obtain ⟨cs, q, _⟩ := HPk.out.row; exact q.lt)
                generalize wp.alloc (.cells #[.slice ra2 (prt (fl F k).parts j).recs.length rc2, .slice da (prt (fl F k).parts j).deps.length dc, .bool (prt (fl F k).parts j).rem, .bool (prt (fl F k).parts j).force] 135) = wq at *
                generalize wp.heap.size = by_ at *
                have z0 : wq.cell? ⟨by_, 0, none⟩ = some (.slice ra2 (prt (fl F k).parts j).recs.length rc2) := HBY.out.cell 0
                have z1 : wq.cell? ⟨by_, 1, none⟩ = some (.slice da (prt (fl F k).parts j).deps.length dc) := HBY.out.cell 1
                have z2 : wq.cell? ⟨by_, 2, none⟩ = some (.bool (prt (fl F k).parts j).rem) := HBY.out.cell 2
                have z3 : wq.cell? ⟨by_, 3, none⟩ = some (.bool (prt (fl F k).parts j).force) := HBY.out.cell 3
                obtain ⟨v0, p0, f0⟩ := HPa.out.has (i := j) (o := 0) hlt2 (by omega)
                obtain ⟨v1, p1, f1⟩ := HPa.out.has (i := j) (o := 1) hlt2 (by omega)
                obtain ⟨v2, p2, f2⟩ := HPa.out.has (i := j) (o := 2) hlt2 (by omega)
                obtain ⟨v3, p3, f3⟩ := HPa.out.has (i := j) (o := 3) hlt2 (by omega)
                simp only [Nat.add_zero] at p0 f0
                go_upto_region 23 with fail
                clear z0 z1 z2 z3 p0 p1 p2 p3 f0 f1 f2 f3
                have HPm := HPa.out.open hlt2 (.slice ra2 (prt (fl F k).parts j).recs.length rc2) (.slice da (prt (fl F k).parts j).deps.length dc)
                have HBL := (laid4_above wq (Nat.lt_succ_self wu.heap.size) (prt (fl F k).parts j) j (.slice ra2 (prt (fl F k).parts j).recs.length rc2) (.slice da (prt (fl F k).parts j).deps.length dc)).blk HBY.out HSY.out
                obtain ⟨wl, hwl⟩ : ∃ wl, wl = laid4 wq wu.heap.size (prt (fl F k).parts j) j (.slice ra2 (prt (fl F k).parts j).recs.length rc2) (.slice da (prt (fl F k).parts j).deps.length dc) := ⟨_, rfl⟩
                rw [← hwl] at HPm HBL
                have HPM := Lib.hid HPm
                have HBYL := Lib.hid HBL
                clear HPm HBL
                unfold laid4 at hwl
                rw [← hwl]
                clear hwl HPa HBY HPk HKc HKW
                have hre := fun w : World => Go.run_eql_slice_nil (P := Try.prog) w 76 23 ra2 (prt (fl F k).parts j).recs.length rc2 Try.underlying76
                have z0 : wl.cell? ⟨by_, 0, none⟩ = some (.slice ra2 (prt (fl F k).parts j).recs.length rc2) := HBYL.out.cell 0
                go_upto_if 86 with (fail)
                go_cut [] (fun W => Hid (C82 wu (fl F k).parts j by_ [.slice ra2 (prt (fl F k).parts j).recs.length rc2, .slice da (prt (fl F k).parts j).deps.length dc, .bool (prt (fl F k).parts j).rem, .bool (prt (fl F k).parts j).force] (.slice da (prt (fl F k).parts j).deps.length dc) W))
                case first =>
                  cases ra2 with
                  | none =>
                    simp only [Option.isNone] at hre
                    go_wp2_with fail
                    go_meet
                    exact Lib.hid ⟨_, HPM.out, nats_nil (HXX.out.kept (HFm.out.kept.trans HPM.out.kept)), HBYL.out⟩
                  | some rd =>
                    simp only [Option.isNone] at hre
                    obtain ⟨C2, l2, g2, m2⟩ := makeN (T := 76) (E := 23) (size := 1) (bytes := 4) Try.underlying76 (by kernel_rfl) (prt (fl F k).parts j).recs.length (by omega) (by omega)
                    have HB0 : Hid (D8 wl (prt (fl F k).parts j).recs (.int .i64 0) (wl.alloc (.cells C2.toArray 23))) := Lib.hid ⟨0, Nat.zero_le _, rfl, Cp.start l2⟩
                    clear g2 l2
                    go_wp2_with fail
                    clear m2 hre z0
                    generalize wl.alloc (.cells C2.toArray 23) = wb at *
                    go_loopw [12] (fun t12 W => D8 wl (prt (fl F k).parts j).recs t12 W) (fun t12 _ => (prt (fl F k).parts j).recs.length - (intOf t12).toNat)
                    case atStart => exact HB0.out
                    case round =>
                      obtain ⟨q, hq, rfl, hC⟩ := hrel
                      have HC := Lib.hid hC
                      clear hC HB0
                      have z0 : wr.cell? ⟨by_, 0, none⟩ = some (.slice (some rd) (prt (fl F k).parts j).recs.length rc2) := (HBYL.out.kept HC.out.kept).cell 0
                      by_cases hlt3 : q < (prt (fl F k).parts j).recs.length
                      · obtain ⟨b3, off3, e3, _, hq3⟩ := Sl.at_ (HXX.out.kept (HFm.out.kept.trans (HPM.out.kept.trans HC.out.kept))) hlt3
                        cases e3
                        obtain ⟨s0, _⟩ := hq3
                        simp only [Nat.mul_one] at s0
                        have q0 : (q : Int) < ((prt (fl F k).parts j).recs.length : Int) := by omega
                        have HNX := Lib.hid (HC.out.step1 hlt3)
                        simp only [Nat.mul_one, Nat.add_zero] at HNX
                        obtain ⟨v0, p0, f0⟩ := HC.out.has (j := 0) hlt3 (by omega)
                        simp only [Nat.mul_one, Nat.add_zero] at p0 f0
                        go_wp2_with fail
                        go_roundw
                        case rel => exact ⟨q + 1, by omega, by go_num, HNX.out⟩
                        case measure => simp [intOf]; omega
                      · obtain rfl : q = (prt (fl F k).parts j).recs.length := by omega
                        have HCC := Lib.hid (C82.copied HPM.out HBYL.out HSY.out hlt2 HC.out hl1 HXX.out.bd)
                        obtain ⟨v3, p3, f3⟩ := (HPM.out.kept2 HC.out.kept).has (i := j) (o := 0) hlt2 (by omega)
                        simp only [Nat.add_zero] at p3 f3
                        go_wp2_with fail
                        go_meet
                        exact Lib.hid HCC.out
                case rest =>
                  obtain ⟨rv2, hPm, hUN, hB2⟩ := hcut.out
                  have HPm := Lib.hid hPm
                  have HUN := Lib.hid hUN
                  have HB2 := Lib.hid hB2
                  clear hPm hUN hB2 hcut hre z0 HBYL HPM HXX
                  obtain ⟨wd, rfl⟩ : ∃ wd : World, wd = wc := ⟨_, rfl⟩
                  have hde := fun w : World => Go.run_eql_slice_nil (P := Try.prog) w 133 139 da (prt (fl F k).parts j).deps.length dc Try.underlying133
                  have z1 : wd.cell? ⟨by_, 1, none⟩ = some (.slice da (prt (fl F k).parts j).deps.length dc) := HB2.out.cell 1
                  cases da with
                  | none =>
                    simp only [Option.isNone] at hde
                    have HNX := Lib.hid (HPm.out.done HUN.out (deps_nil (HDD.out.kept (HFm.out.kept.trans HPm.out.kept))))
                    go_wp2_with fail
                    go_roundw
                    case rel => exact ⟨j + 1, by omega, by go_num, HNX.out⟩
                    case measure => simp [intOf]; omega
                  | some dd =>
                    simp only [Option.isNone] at hde
                    obtain ⟨C2, l2, g2, m2⟩ := makeN (T := 133) (E := 139) (size := 2) (bytes := 8) Try.underlying133 (by kernel_rfl) (prt (fl F k).parts j).deps.length (by omega) (by omega)
                    have HB0 : Hid (E8 wd (prt (fl F k).parts j).deps (.int .i64 0) (wd.alloc (.cells C2.toArray 139))) := Lib.hid ⟨0, Nat.zero_le _, rfl, Cp.start l2⟩
                    clear g2 l2
                    go_wp2_with fail
                    clear m2 hde z1
                    generalize wd.alloc (.cells C2.toArray 139) = wb at *
                    go_loopw [14] (fun t14 W => E8 wd (prt (fl F k).parts j).deps t14 W) (fun t14 _ => (prt (fl F k).parts j).deps.length - (intOf t14).toNat)
                    case atStart => exact HB0.out
                    case round =>
                      obtain ⟨q, hq, rfl, hC⟩ := hrel
                      have HC := Lib.hid hC
                      clear hC HB0
                      have z1 : wr.cell? ⟨by_, 1, none⟩ = some (.slice (some dd) (prt (fl F k).parts j).deps.length dc) := (HB2.out.kept HC.out.kept).cell 1
                      by_cases hlt3 : q < (prt (fl F k).parts j).deps.length
                      · obtain ⟨b3, off3, e3, _, hq3⟩ := Sl.at_ (HDD.out.kept (HFm.out.kept.trans (HPm.out.kept.trans HC.out.kept))) hlt3
                        cases e3
                        obtain ⟨s0, s1, _⟩ := hq3
                        have q0 : (q : Int) < ((prt (fl F k).parts j).deps.length : Int) := by omega
                        have HNX := Lib.hid (HC.out.step2 hlt3)
                        obtain ⟨v0, p0, f0⟩ := HC.out.has (j := 0) hlt3 (by omega)
                        obtain ⟨v1, p1, f1⟩ := HC.out.has (j := 1) hlt3 (by omega)
                        simp only [Nat.add_zero] at p0 f0
                        go_wp2_with fail
                        go_roundw
                        case rel => exact ⟨q + 1, by omega, by go_num, HNX.out⟩
                        case measure => simp [intOf]; omega
                      · obtain rfl : q = (prt (fl F k).parts j).deps.length := by omega
                        have HCC := Lib.hid (HPm.out.deps HUN.out hlt2 HC.out hl2 HDD.out.bd)
                        obtain ⟨v3, p3, f3⟩ := (HPm.out.kept2 HC.out.kept).has (i := j) (o := 1) hlt2 (by omega)
                        go_wp2_with fail
                        go_roundw
                        case rel => exact ⟨j + 1, by omega, by go_num, HCC.out⟩
                        case measure => simp [intOf]; omega
              · obtain rfl : j = (fl F k).parts.length := by omega
                have HNX := Lib.hid (HFm.out.parts HRN.out HLT.out HX.out HPk.out hpl)
                obtain ⟨v3, p3, f3⟩ := (HFm.out.kept2 HPk.out.kept).has (i := k) (o := 4) HLT.out (by omega)
                go_wp2_with fail
                go_roundw
                case rel => exact ⟨k + 1, HLT.out, by go_num, HNX.out⟩
                case measure => simp [intOf]; omega
      · obtain rfl : k = n := by omega
        have HNX := Lib.hid (HFk.out)
        have HFI : Hid (FilesC wo (.slice (some ⟨w.heap.size, 0, none⟩) k k) F) := Lib.hid (by
          have q := HFk.out
          rw [← HN0.out] at q
          have := q.fin (by rw [HN0.out]; omega)
          rw [HN0.out] at this
          exact this)
        go_wp2_with fail
        go_ret
        exact ⟨⟨_, rfl, HFI.out⟩, HFk.out.kept⟩
end Go.Proofs.Ytgnccfofhcbjjaa.lk
