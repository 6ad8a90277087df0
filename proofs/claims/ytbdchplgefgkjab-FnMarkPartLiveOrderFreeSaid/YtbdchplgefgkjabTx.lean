/-
  The walk of FnMarkPartLiveOrderFree over this seat's program.
  Conditions: the files are readable.
-/
import Derived.Test.YtbdchplgefgkjabTw
namespace Go.Proofs.Ytbdchplgefgkjab.tm
open Go.ChangeShapes Go.WideShapes Go.ChangeAt Go.RowKit
open kit dfs

set_option maxRecDepth 100000 in
set_option maxHeartbeats 40000000 in
theorem law (w : World) (a : Option Addr) (n c : Nat) (F : Ct) (x1 x2 y1 y2 : Nat) (h : FilesC w a n F) (hm : n ≤ 9223372036854775807) (hx1 : x1 ≤ 4294967295) (hx2 : x2 ≤ 4294967295) (hy1 : y1 ≤ 4294967295) (hy2 : y2 ≤ 4294967295) :
    Calls Try.prog 3 #[.slice a n c, .agg #[.int .u32 (x1 : Int), .int .u32 (x2 : Int)], .agg #[.int .u32 (y1 : Int), .int .u32 (y2 : Int)]] w (LawTrue w) := by
  have HK0 := Lib.hid (((Kept.refl w).alloc (.cells #[.int .u32 (x1 : Int), .int .u32 (x2 : Int)] 25)).alloc (.cells #[.int .u32 (y1 : Int), .int .u32 (y2 : Int)] 25))
  have HFw := Lib.hid h
  have BX0 : Hid (Blk ((w.alloc (.cells #[.int .u32 (x1 : Int), .int .u32 (x2 : Int)] 25)).alloc (.cells #[.int .u32 (y1 : Int), .int .u32 (y2 : Int)] 25)) w.heap.size 25 [.int .u32 (x1 : Int), .int .u32 (x2 : Int)]) := Lib.hid ((Blk.new w 25 [.int .u32 (x1 : Int), .int .u32 (x2 : Int)]).alloc _)
  have BY0 : Hid (Blk ((w.alloc (.cells #[.int .u32 (x1 : Int), .int .u32 (x2 : Int)] 25)).alloc (.cells #[.int .u32 (y1 : Int), .int .u32 (y2 : Int)] 25)) (w.heap.size + 1) 25 [.int .u32 (y1 : Int), .int .u32 (y2 : Int)]) := Lib.hid (blkNew1 w _ 25 [.int .u32 (y1 : Int), .int .u32 (y2 : Int)])
  clear h
  go_enter Try.func3, Try.ntmps3
  go_upto_region 1 with fail
  generalize (w.alloc (.cells #[.int .u32 (x1 : Int), .int .u32 (x2 : Int)] 25)).alloc (.cells #[.int .u32 (y1 : Int), .int .u32 (y2 : Int)] 25) = w0 at *
  have HF0 := Lib.hid (HFw.out.kept HK0.out)
  clear HFw
  generalize hbx : w.heap.size = bx at *
  generalize hby : bx + 1 = by_ at *
  have HBX := Lib.hid hbx
  have HBY := Lib.hid hby
  clear hbx hby
  have a0 : w0.cell? ⟨bx, 0, none⟩ = some (.int .u32 (x1 : Int)) := BX0.out.cell 0
  have a1 : w0.cell? ⟨bx, 1, none⟩ = some (.int .u32 (x2 : Int)) := BX0.out.cell 1
  have a2 : w0.cell? ⟨by_, 0, none⟩ = some (.int .u32 (y1 : Int)) := BY0.out.cell 0
  have a3 : w0.cell? ⟨by_, 1, none⟩ = some (.int .u32 (y2 : Int)) := BY0.out.cell 1
  go_wp2_with fail
  refine (bytes w0 a n c F x1 x2 y1 y2 HF0.out hm).mono ?_
  rintro e w1 ⟨⟨b0, rfl, hb0⟩, k1⟩
  have HK1 := Lib.hid k1
  have HF1 := Lib.hid (HF0.out.kept k1)
  clear k1 a0 a1 a2 a3
  cases b0
  · clear hb0
    go_wp2_with fail
    go_ret
    exact ⟨rfl, HK0.out.trans HK1.out⟩
  have hn1 := (hb0 rfl).1
  have HL1 := Lib.hid (hb0 rfl).2
  clear hb0
  go_wp2_with fail
  refine (size w1 a n c F HF1.out hn1 HL1.out).mono ?_
  rintro e w' ⟨⟨sz, rfl, hsz⟩, rfl⟩
  by_cases hs : sz ≤ 1048576
  case neg =>
    clear hsz
    go_wp2_with fail
    go_ret
    exact ⟨rfl, HK0.out.trans HK1.out⟩
  obtain ⟨hn, hl, htot⟩ := hsz hs
  have HL := Lib.hid hl
  have HTOT := Lib.hid htot
  clear hsz hl htot HL1
  go_wp2_with fail
  refine (allValid w1 a n c F HF1.out hn HL.out).mono ?_
  rintro e w2 ⟨⟨b0, rfl, hb0⟩, k2⟩
  have HK2 := Lib.hid (HK1.out.trans k2)
  have HF2 := Lib.hid (HF1.out.kept k2)
  have HOk := Lib.hid hb0
  clear k2 hb0
  cases b0
  · go_wp2_with fail
    go_ret
    exact ⟨rfl, HK0.out.trans HK2.out⟩
  have HOk2 : Hid (Ok n F n) := Lib.hid (HOk.out rfl)
  have a0 : w2.cell? ⟨bx, 0, none⟩ = some (.int .u32 (x1 : Int)) := (BX0.out.kept HK2.out).cell 0
  have a1 : w2.cell? ⟨bx, 1, none⟩ = some (.int .u32 (x2 : Int)) := (BX0.out.kept HK2.out).cell 1
  go_wp2_with fail
  refine (depOK w2 a n c F x1 x2 HF2.out hn HL.out hx1 hx2).mono ?_
  rintro e w3 ⟨rfl, k3⟩
  have HK3 := Lib.hid (HK2.out.trans k3)
  have HF3 := Lib.hid (HF2.out.kept k3)
  clear k3 a0 a1
  cases hokx : okB n F x1 x2
  · clear hokx
    go_wp2_with fail
    go_ret
    exact ⟨rfl, HK0.out.trans HK3.out⟩
  have HIx := Lib.hid (okB_iff hokx)
  clear hokx
  have a2 : w3.cell? ⟨by_, 0, none⟩ = some (.int .u32 (y1 : Int)) := (BY0.out.kept HK3.out).cell 0
  have a3 : w3.cell? ⟨by_, 1, none⟩ = some (.int .u32 (y2 : Int)) := (BY0.out.kept HK3.out).cell 1
  go_wp2_with fail
  refine (depOK w3 a n c F y1 y2 HF3.out hn HL.out hy1 hy2).mono ?_
  rintro e w4 ⟨rfl, k4⟩
  have HK4' := Lib.hid (HK3.out.trans k4)
  have HF4 := Lib.hid (HF3.out.kept k4)
  clear k4 a2 a3
  cases hoky : okB n F y1 y2
  · clear hoky
    go_wp2_with fail
    go_ret
    exact ⟨rfl, HK0.out.trans HK4'.out⟩
  have HIy := Lib.hid (okB_iff hoky)
  clear hoky
  have HFit : Hid (Fits n F) := Lib.hid ⟨HF4.out.1, hn, fun f hf => (HL.out f hf).1, fun f hf p hp => (HL.out f hf).2 p hp, HOk2.out⟩
  go_wp2_with fail
  refine (clone w4 a n c F HF4.out hn HL.out).mono ?_
  rintro e wC ⟨⟨a5, c5, rfl, hFC⟩, kC⟩
  have HFC := Lib.hid hFC
  have HKC := Lib.hid (HK4'.out.trans kC)
  have HXx := Lib.hid (BX0.out.kept HKC.out)
  have HXy := Lib.hid (BY0.out.kept HKC.out)
  clear hFC kC HF0 HF1 HF2 HF3 HF4 HK1 HK2 HK3 HK4' BX0 BY0 HOk HOk2
  go_wp2_with fail
  refine (empty wC a5 n c5 F HFC.out hn HL.out).mono ?_
  rintro e wE ⟨rfl, G, hM, hGl, kE⟩
  have HM0 := Lib.hid hM
  have HKE := Lib.hid kE
  have HGB : Hid (∀ b, GB wC.heap.size n G b → wC.heap.size ≤ b) := Lib.hid (fun b hb => hb.elim (fun e => by rw [e]; exact Nat.le_refl _) (fun ⟨i, hi, e⟩ => e ▸ hGl i hi))
  have a0 : wE.cell? ⟨bx, 0, none⟩ = some (.int .u32 (x1 : Int)) := (HXx.out.kept HKE.out).cell 0
  have a1 : wE.cell? ⟨bx, 1, none⟩ = some (.int .u32 (x2 : Int)) := (HXx.out.kept HKE.out).cell 1
  clear hM hGl kE
  go_wp2_with fail
  refine (closure wC wE a5 n c5 F wC.heap.size (wC.heap.size + 1) G (fun _ => false) (x1, x2) HFC.out HKE.out HFit.out HTOT.out HM0.out (fun x hx => by cases hx) HIx.out HGB.out).mono ?_
  rintro e wM1 ⟨rfl, ⟨R1, hM1, hi1, hc1⟩, hT1⟩
  have HKM1 := Lib.hid (show Kept wC wM1 from (Below.mono HKE.out (Nat.le_refl _)).trans (hT1.below HGB.out HKE.out.size))
  have HM1' := Lib.hid hM1
  have HI1 := Lib.hid hi1
  have HC1 := Lib.hid hc1
  clear hM1 hi1 hc1 hT1 a0 a1 HM0 HKE
  have a2 : wM1.cell? ⟨by_, 0, none⟩ = some (.int .u32 (y1 : Int)) := (HXy.out.kept HKM1.out).cell 0
  have a3 : wM1.cell? ⟨by_, 1, none⟩ = some (.int .u32 (y2 : Int)) := (HXy.out.kept HKM1.out).cell 1
  go_wp2_with fail
  refine (closure wC wM1 a5 n c5 F wC.heap.size (wC.heap.size + 1) G R1 (y1, y2) HFC.out HKM1.out HFit.out HTOT.out HM1'.out HC1.out HIy.out HGB.out).mono ?_
  rintro e wM2 ⟨rfl, ⟨R2, hM2, hi2, _⟩, hT2⟩
  have HKM2 := Lib.hid (show Kept wC wM2 from (Below.mono HKM1.out (Nat.le_refl _)).trans (hT2.below HGB.out HKM1.out.size))
  have HM2' := Lib.hid hM2
  have HI2 := Lib.hid hi2
  clear hM2 hi2 hT2 a2 a3 HM1' HC1 HKM1
  obtain ⟨OS, hOS, h94⟩ : ∃ OS, Try.prog.built 92 [(70, .bool true)] = some OS ∧ OS[94]? = some (.bool true) := Option.map_eq_some_iff.1 (by kernel_rfl)
  have HOS := Lib.hid hOS
  have hob : Blk (wM2.alloc (.cells OS 92)) wM2.heap.size 92 OS.toList ∧ OS.toList[94]? = some (.bool true) := ⟨by have := Blk.new wM2 92 OS.toList; simpa using this, by simpa using h94⟩
  have HK1 := Lib.hid (HKM2.out.trans ((Kept.refl wM2).alloc (.cells OS 92)))
  have HM1 := Lib.hid (HM2'.out.kept ((Kept.refl wM2).alloc (.cells OS 92)))
  have HOB := Lib.hid hob
  clear hOS h94 hob HKM2 HM2'
  go_upto_region 12 with (refine wpList_build1 rfl 92 _ rfl [(70, .bool true)] ?hL9 OS HOS.out ?_)
  generalize wM2.alloc (.cells OS 92) = W1 at *
  generalize wM2.heap.size = ob at *
  have HO1 := Lib.hid (Kept.refl W1)
  have HMK := HM1
  clear HM1
  go_wp2_with fail
  -- side 1
  refine (build W1 a5 n c5 F (HFC.out.kept HK1.out) HFit.out).mono ?_
  rintro e u11 ⟨rfl, J1, PB1, DB1, hBd⟩
  have HBd := Lib.hid hBd
  clear hBd
  go_wp2_with fail
  refine (newCtx u11 W1.heap.size n ob).mono ?_
  rintro e u21 ⟨cb1, cs, rfl, hcb, hc10, hc0, hcs, k2⟩
  have HMem := Lib.hid (HBd.out.mem HFit.out k2 hcb hc10 hc0 (HOB.out.1.kept (HO1.out.trans (HBd.out.kept.trans k2))) HOB.out.2)
  have HKB := Lib.hid (HBd.out.kept.trans k2)
  have z0 : u21.cell? ⟨bx, 0, none⟩ = some (.int .u32 (x1 : Int)) := (HXx.out.kept (HK1.out.trans HKB.out)).cell 0
  have z1 : u21.cell? ⟨bx, 1, none⟩ = some (.int .u32 (x2 : Int)) := (HXx.out.kept (HK1.out.trans HKB.out)).cell 1
  have HRP := Lib.hid (HBd.out.reprAt k2)
  clear hcb hc10 hc0 hcs k2
  go_wp2_with fail
  refine (zzmark cb1 W1.heap.size ob n J1 PB1 DB1 F u21 (fun _ => false) x1 x2 HMem.out HIx.out.1 HIx.out.2).mono ?_
  rintro e u31 ⟨rfl, d1, hD1, hM1, hT1⟩
  have HK3 := Lib.hid (lowMB HBd.out HKB.out hT1)
  have HD1 := Lib.hid hD1
  have HM1 := Lib.hid hM1
  have HRP3 := Lib.hid (fun i (hi : i < n) => hT1.cell (HRP.out i hi) HBd.out.notMB)
  clear hD1 hM1 hT1 HMem z0 z1
  have z0 : u31.cell? ⟨by_, 0, none⟩ = some (.int .u32 (y1 : Int)) := (HXy.out.kept (HK1.out.trans HK3.out)).cell 0
  have z1 : u31.cell? ⟨by_, 1, none⟩ = some (.int .u32 (y2 : Int)) := (HXy.out.kept (HK1.out.trans HK3.out)).cell 1
  go_wp2_with fail
  refine (zzmark cb1 W1.heap.size ob n J1 PB1 DB1 F u31 d1 y1 y2 HM1.out HIy.out.1 HIy.out.2).mono ?_
  rintro e u41 ⟨rfl, dd1, hD2, hM2, hT2⟩
  have HK4 := Lib.hid (lowMB HBd.out HK3.out hT2)
  have HDD1 := Lib.hid (show ∃ d1, Dfs (succ F) (.inr (x1, x2)) (fun _ => false) d1 ∧ Dfs (succ F) (.inr (y1, y2)) d1 dd1 from ⟨d1, HD1.out, hD2⟩)
  have HM4 := Lib.hid hM2
  have HR4 : Hid (∀ i, i < n → u41.cell? ⟨W1.heap.size + 1, i, none⟩ = some (.pointer (some ⟨J1 i, 0, none⟩))) := Lib.hid (fun i hi => hT2.cell (HRP3.out i hi) HBd.out.notMB)
  clear hD2 hM2 hT2 HM1 HD1 z0 z1
  obtain ⟨C, lC, gC, mC⟩ := makeN (T := 31) (E := 4) (size := 1) (bytes := 1) Try.underlying31 (by kernel_rfl) n (by omega) (by omega)
  have hC0 := gC 0 (.bool false) (by omega) (by kernel_rfl)
  simp only [Nat.mul_one, Nat.add_zero] at hC0 lC
  have HG0 : Hid (Got u41 u41.heap.size n dd1 (.int .i64 0) (u41.alloc (.cells C.toArray 4))) := Lib.hid ⟨0, Nat.zero_le _, rfl, (Bools.made u41 lC hC0).congr (fun x _ => by rw [if_neg (by omega)]), (Kept.refl _).alloc _⟩
  clear gC hC0 lC
  go_wp2_with fail
  clear mC
  generalize u41.alloc (.cells C.toArray 4) = wg at *
  go_loopw [14] (fun t W => Got u41 u41.heap.size n dd1 t W) (fun t _ => n - (intOf t).toNat)
  case atStart => exact HG0.out
  case round =>
  obtain ⟨k, hk, rfl, hBo, hK⟩ := hrel
  have HBo := Lib.hid hBo
  have HKg := Lib.hid hK
  clear hBo hK HG0
  by_cases hlt : k < n
  · have W32 : IntKind.u32.wrap (k : Int) = (k : Int) := by rw [IntKind.wrap_u32]; omega
    have k0 : (k : Int) < (n : Int) := by omega
    go_wp2_with fail
    refine (isLive cb1 W1.heap.size ob n J1 PB1 DB1 F wr dd1 k (HM4.out.kept HKg.out) hlt).mono ?_
    rintro e w' ⟨rfl, rfl⟩
    have y1 := HBo.out.cell hlt
    have y2 := HBo.out.free k
    have HNX := Lib.hid (Got.step HBo.out hlt)
    have HKX := Lib.hid (HKg.out.setCell (p := ⟨u41.heap.size, k, none⟩) (Nat.le_refl _) (.bool (dd1 (.inl k))))
    clear HBo HKg
    generalize dd1 (.inl k) = dk at *
    go_wp2_with fail
    go_roundw
    case rel => exact ⟨k + 1, by omega, by go_num, HNX.out, HKX.out⟩
    case measure => simp [intOf]; omega
  obtain rfl : n = k := by omega
  have HS1 : Hid (Side W1 wr n F (x1, x2) (y1, y2) cb1 (W1.heap.size + 1) u41.heap.size dd1) := Lib.hid ⟨⟨_, _, _, _, _, HM4.out.kept HKg.out, fun i hi => HKg.out.cell (HR4.out i hi)⟩, HDD1.out, HBo.out.congr (fun x hx => by rw [if_pos hx]), HK4.out.trans HKg.out⟩
  clear HM4 HR4 HKg HBo HK4 HKB HK3 HBd HRP HRP3
  obtain ⟨W2, rfl⟩ : ∃ W2 : World, W2 = wr := ⟨_, rfl⟩
  have HK2 := Lib.hid (HK1.out.trans HS1.out.kept)
  have HO2 := Lib.hid HS1.out.kept
  go_wp2_with fail
  -- side 2
  refine (build W2 a5 n c5 F (HFC.out.kept HK2.out) HFit.out).mono ?_
  rintro e u12 ⟨rfl, J2, PB2, DB2, hBd⟩
  have HBd := Lib.hid hBd
  clear hBd
  go_wp2_with fail
  refine (newCtx u12 W2.heap.size n ob).mono ?_
  rintro e u22 ⟨cb2, cs, rfl, hcb, hc10, hc0, hcs, k2⟩
  have HMem := Lib.hid (HBd.out.mem HFit.out k2 hcb hc10 hc0 (HOB.out.1.kept (HO2.out.trans (HBd.out.kept.trans k2))) HOB.out.2)
  have HKB := Lib.hid (HBd.out.kept.trans k2)
  have z0 : u22.cell? ⟨by_, 0, none⟩ = some (.int .u32 (y1 : Int)) := (HXy.out.kept (HK2.out.trans HKB.out)).cell 0
  have z1 : u22.cell? ⟨by_, 1, none⟩ = some (.int .u32 (y2 : Int)) := (HXy.out.kept (HK2.out.trans HKB.out)).cell 1
  have HRP := Lib.hid (HBd.out.reprAt k2)
  clear hcb hc10 hc0 hcs k2
  go_wp2_with fail
  refine (zzmark cb2 W2.heap.size ob n J2 PB2 DB2 F u22 (fun _ => false) y1 y2 HMem.out HIy.out.1 HIy.out.2).mono ?_
  rintro e u32 ⟨rfl, d1, hD1, hM1, hT1⟩
  have HK3 := Lib.hid (lowMB HBd.out HKB.out hT1)
  have HD1 := Lib.hid hD1
  have HM1 := Lib.hid hM1
  have HRP3 := Lib.hid (fun i (hi : i < n) => hT1.cell (HRP.out i hi) HBd.out.notMB)
  clear hD1 hM1 hT1 HMem z0 z1
  have z0 : u32.cell? ⟨bx, 0, none⟩ = some (.int .u32 (x1 : Int)) := (HXx.out.kept (HK2.out.trans HK3.out)).cell 0
  have z1 : u32.cell? ⟨bx, 1, none⟩ = some (.int .u32 (x2 : Int)) := (HXx.out.kept (HK2.out.trans HK3.out)).cell 1
  go_wp2_with fail
  refine (zzmark cb2 W2.heap.size ob n J2 PB2 DB2 F u32 d1 x1 x2 HM1.out HIx.out.1 HIx.out.2).mono ?_
  rintro e u42 ⟨rfl, dd2, hD2, hM2, hT2⟩
  have HK4 := Lib.hid (lowMB HBd.out HK3.out hT2)
  have HDD2 := Lib.hid (show ∃ d1, Dfs (succ F) (.inr (y1, y2)) (fun _ => false) d1 ∧ Dfs (succ F) (.inr (x1, x2)) d1 dd2 from ⟨d1, HD1.out, hD2⟩)
  have HM4 := Lib.hid hM2
  have HR4 : Hid (∀ i, i < n → u42.cell? ⟨W2.heap.size + 1, i, none⟩ = some (.pointer (some ⟨J2 i, 0, none⟩))) := Lib.hid (fun i hi => hT2.cell (HRP3.out i hi) HBd.out.notMB)
  clear hD2 hM2 hT2 HM1 HD1 z0 z1
  obtain ⟨C, lC, gC, mC⟩ := makeN (T := 31) (E := 4) (size := 1) (bytes := 1) Try.underlying31 (by kernel_rfl) n (by omega) (by omega)
  have hC0 := gC 0 (.bool false) (by omega) (by kernel_rfl)
  simp only [Nat.mul_one, Nat.add_zero] at hC0 lC
  have HG0 : Hid (Got u42 u42.heap.size n dd2 (.int .i64 0) (u42.alloc (.cells C.toArray 4))) := Lib.hid ⟨0, Nat.zero_le _, rfl, (Bools.made u42 lC hC0).congr (fun x _ => by rw [if_neg (by omega)]), (Kept.refl _).alloc _⟩
  clear gC hC0 lC
  go_wp2_with fail
  clear mC
  generalize u42.alloc (.cells C.toArray 4) = wg at *
  go_loopw [19] (fun t W => Got u42 u42.heap.size n dd2 t W) (fun t _ => n - (intOf t).toNat)
  case atStart => exact HG0.out
  case round =>
  obtain ⟨k, hk, rfl, hBo, hK⟩ := hrel
  have HBo := Lib.hid hBo
  have HKg := Lib.hid hK
  clear hBo hK HG0
  by_cases hlt : k < n
  · have W32 : IntKind.u32.wrap (k : Int) = (k : Int) := by rw [IntKind.wrap_u32]; omega
    have k0 : (k : Int) < (n : Int) := by omega
    go_wp2_with fail
    refine (isLive cb2 W2.heap.size ob n J2 PB2 DB2 F wr dd2 k (HM4.out.kept HKg.out) hlt).mono ?_
    rintro e w' ⟨rfl, rfl⟩
    have y1 := HBo.out.cell hlt
    have y2 := HBo.out.free k
    have HNX := Lib.hid (Got.step HBo.out hlt)
    have HKX := Lib.hid (HKg.out.setCell (p := ⟨u42.heap.size, k, none⟩) (Nat.le_refl _) (.bool (dd2 (.inl k))))
    clear HBo HKg
    generalize dd2 (.inl k) = dk at *
    go_wp2_with fail
    go_roundw
    case rel => exact ⟨k + 1, by omega, by go_num, HNX.out, HKX.out⟩
    case measure => simp [intOf]; omega
  obtain rfl : n = k := by omega
  have HS2 : Hid (Side W2 wr n F (y1, y2) (x1, x2) cb2 (W2.heap.size + 1) u42.heap.size dd2) := Lib.hid ⟨⟨_, _, _, _, _, HM4.out.kept HKg.out, fun i hi => HKg.out.cell (HR4.out i hi)⟩, HDD2.out, HBo.out.congr (fun x hx => by rw [if_pos hx]), HK4.out.trans HKg.out⟩
  clear HM4 HR4 HKg HBo HK4 HKB HK3 HBd HRP HRP3
  have HS1' := Lib.hid (HS1.out.kept2 HS2.out.kept)
  have HMK' := Lib.hid (HMK.out.kept (HS1.out.kept.trans HS2.out.kept))
  clear HS1 HMK HOB HOS
  obtain ⟨⟨LBa, oba, Ja, PBa, DBa, ma1, ma2⟩, ⟨da, ma3, ma4⟩, ma5, ma6⟩ := HS1'.out
  have HCa := Lib.hid (same wr cb1 LBa oba n _ _ _ _ Ja PBa DBa F dd1 R2 G ma1 ma2 ma5 HMK'.out (fun v _ => agree ma3 ma4 HI1.out HI2.out v))
  clear ma1 ma2 ma3 ma4 ma5 ma6
  obtain ⟨⟨LBb, obb, Jb, PBb, DBb, mb1, mb2⟩, ⟨db, mb3, mb4⟩, mb5, mb6⟩ := HS2.out
  have HCb := Lib.hid (fun W (k : Kept wr W) => same W cb2 LBb obb n _ _ _ _ Jb PBb DBb F dd2 R2 G (mb1.kept k) (fun i hi => k.cell (mb2 i hi)) (mb5.kept k) (HMK'.out.kept k) (fun v _ => agree2 mb3 mb4 HI1.out HI2.out v))
  have HKF := Lib.hid ((HK0.out.trans HKC.out).trans (HK2.out.trans mb6))
  clear mb1 mb2 mb3 mb4 mb5 mb6 HMK' HS1' HS2
  go_wp2_with fail
  refine HCa.out.mono ?_
  rintro e wy ⟨rfl, ky⟩
  have HKy := Lib.hid ky
  clear ky
  go_wp2_with fail
  refine (HCb.out wy HKy.out).mono ?_
  rintro e wz ⟨rfl, kz⟩
  have HKz := Lib.hid (HKF.out.trans (HKy.out.trans kz))
  clear kz
  go_wp2_with fail
  go_ret
  exact ⟨rfl, HKz.out⟩
end Go.Proofs.Ytbdchplgefgkjab.tm
