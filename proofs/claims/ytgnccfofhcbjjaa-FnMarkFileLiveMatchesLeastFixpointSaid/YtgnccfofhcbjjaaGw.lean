/-
  lkB1WellFormed over this seat's program: where it says yes the files are sound.
  Conditions: the files are readable and small.
-/
import Derived.Test.YtgnccfofhcbjjaaGs
import Derived.Deep.RegionHeld3
import Derived.Deep.RegionWith
import Derived.StillTailTactics
import Derived.Deep.DeepCutAuto
namespace Go.Proofs.Ytgnccfofhcbjjaa.lk
open Go.ChangeShapes Go.WideShapes Go.ChangeAt Go.RowKit
open kit dfs

def DepOk (F : Ct) (d : Nat × Nat) : Prop := d.1 < F.length ∧ d.2 < (fl F d.1).parts.length
def PartOk (F : Ct) (r : Nat) (p : Prt) : Prop := (∀ k, k < p.recs.length → nat p.recs k < r) ∧ ∀ k, k < p.deps.length → DepOk F (lk.dep p.deps k)
def OkA (w : World) (F : Ct) (e : Ending) (w' : World) : Prop := (∃ b, e = .returned (.bool b) ∧ (b = true → ∀ i, i < F.length → Ok1 F i)) ∧ Kept w w'
def A7 (w : World) (n : Nat) (F : Ct) (t4 : Value) (W : World) : Prop := ∃ k : Nat, k ≤ n ∧ t4 = .int .i64 (k : Int) ∧ Hid (∀ i, i < k → Ok1 F i) ∧ Kept w W
def B7 (w : World) (n : Nat) (R : List Rec) (t6 : Value) (W : World) : Prop := ∃ k : Nat, k ≤ R.length ∧ t6 = .int .i64 (k : Int) ∧ Hid (∀ q, q < k → -1 ≤ (rcd R q).tgt ∧ (rcd R q).tgt < (n : Int)) ∧ Kept w W
def C7 (w : World) (F : Ct) (r : Nat) (P : List Prt) (t8 : Value) (W : World) : Prop := ∃ k : Nat, k ≤ P.length ∧ t8 = .int .i64 (k : Int) ∧ Hid (∀ q, q < k → PartOk F r (prt P q)) ∧ Kept w W
def D7 (w : World) (r : Nat) (X : List Nat) (t10 : Value) (W : World) : Prop := ∃ k : Nat, k ≤ X.length ∧ t10 = .int .i64 (k : Int) ∧ Hid (∀ q, q < k → nat X q < r) ∧ Kept w W
def E7 (w : World) (F : Ct) (X : List (Nat × Nat)) (t11 : Value) (W : World) : Prop := ∃ k : Nat, k ≤ X.length ∧ t11 = .int .i64 (k : Int) ∧ Hid (∀ q, q < k → DepOk F (lk.dep X q)) ∧ Kept w W
theorem upto_step {p : Nat → Prop} {k : Nat} (h : ∀ q, q < k → p q) (hk : p k) : ∀ q, q < k + 1 → p q := fun q hq => by
  by_cases e : q = k
  · rw [e]; exact hk
  · exact h q (by omega)

set_option maxRecDepth 100000 in
set_option maxHeartbeats 16000000 in
theorem wellFormed (w : World) (a : Option Addr) (n c : Nat) (F : Ct) (h : FilesC w (.slice a n c) F) (hF : F.length = n) (hn : n ≤ 18724) (hl : Lens F 262144 n) :
    Calls Try.prog 7 #[.slice a n c] w (OkA w F) := by
  have HF := Lib.hid h
  have HL := Lib.hid hl
  have HN0 := Lib.hid hF
  clear h hl hF
  have HA0 : Hid (A7 w n F (.int .i64 0) w) := Lib.hid ⟨0, by omega, rfl, Lib.hid (fun i hi => absurd hi (by omega)), Kept.refl _⟩
  go_enter Try.func7, Try.ntmps7
  go_wp2_with fail
  go_loopw [4] (fun t4 W => A7 w n F t4 W) (fun t4 _ => n - (intOf t4).toNat)
  case atStart => exact HA0.out
  case round =>
    obtain ⟨k, hk, rfl, HO, hK⟩ := hrel
    obtain ⟨wo, rfl⟩ : ∃ wo : World, wo = wr := ⟨_, rfl⟩
    have HK := Lib.hid hK
    clear hK HA0
    by_cases hlt : k < n
    · have hfl := HF.out.kept HK.out
      obtain ⟨b, off, rfl, _, ra, rc, pa, pc, c0, c1, c2, c3, c4, ⟨hx1, hx2⟩, ⟨hr1, hr2, _⟩, ⟨hp1, hp2, _⟩, hR, hP⟩ := hfl.at_ (k := k) (by rw [HN0.out]; exact hlt)
      have HP := Lib.hid hP
      have HR := Lib.hid hR
      have k0 : (k : Int) < (n : Int) := by omega
      have hrl : (fl F k).recs.length ≤ 262144 := (HL.out k hlt).1
      have hpl : (fl F k).parts.length ≤ 262144 := (HL.out k hlt).2.1
      have HLk := Lib.hid (HL.out k hlt).2.2
      have HOK : Hid ((-1 ≤ (fl F k).css ∧ (fl F k).css < (n : Int)) → (∀ q, q < (fl F k).recs.length → -1 ≤ (rcd (fl F k).recs q).tgt ∧ (rcd (fl F k).recs q).tgt < (n : Int)) → (∀ q, q < (fl F k).parts.length → PartOk F (fl F k).recs.length (prt (fl F k).parts q)) → ∀ i, i < k + 1 → Ok1 F i) := Lib.hid (fun h1 h2 h3 => upto_step HO.out ⟨by rw [HN0.out]; exact h1, by rw [HN0.out]; exact h2, fun p hp => (h3 p hp).1, fun p hp => (h3 p hp).2⟩)
      clear hP hR hfl HO
      generalize (fl F k).css = x at *
      generalize (fl F k).side = sd at *
      generalize (fl F k).live = lv at *
      generalize (fl F k).recs = R at *
      generalize (fl F k).parts = P at *
      have W1 : IntKind.i64.wrap x = x := by rw [IntKind.wrap_i64]; omega
      have HKb := Lib.hid ((Kept.refl wo).alloc (.cells #[.int .i32 x, .bool sd, .bool lv, .slice ra R.length rc, .slice pa P.length pc] 66))
      have HBX : Hid (Blk (wo.alloc (.cells #[.int .i32 x, .bool sd, .bool lv, .slice ra R.length rc, .slice pa P.length pc] 66)) wo.heap.size 66 [.int .i32 x, .bool sd, .bool lv, .slice ra R.length rc, .slice pa P.length pc]) := Lib.hid (Blk.new wo 66 _)
      go_upto_region 6 with fail
      clear c0 c1 c2 c3 c4
      generalize wo.alloc (.cells #[.int .i32 x, .bool sd, .bool lv, .slice ra R.length rc, .slice pa P.length pc] 66) = wa at *
      generalize wo.heap.size = bx at *
      have HKA := Lib.hid (HK.out.trans HKb.out)
      have z0 : wa.cell? ⟨bx, 0, none⟩ = some (.int .i32 x) := HBX.out.cell 0
      have z3 : wa.cell? ⟨bx, 3, none⟩ = some (.slice ra R.length rc) := HBX.out.cell 3
      by_cases hc1 : x < -1
      · clear HOK
        go_wp2_with fail
        go_ret
        exact ⟨⟨false, rfl, fun h => by cases h⟩, HKA.out⟩
      · by_cases hc2 : x < (n : Int)
        · have HOK2 := Lib.hid (HOK.out ⟨by omega, hc2⟩)
          have HB0 : Hid (B7 wa n R (.int .i64 0) wa) := Lib.hid ⟨0, by omega, rfl, Lib.hid (fun i hi => absurd hi (by omega)), Kept.refl _⟩
          clear HOK
          go_wp2_with fail
          clear z0 z3
          go_loopw [6] (fun t6 W => B7 wa n R t6 W) (fun t6 _ => R.length - (intOf t6).toNat)
          case atStart => exact HB0.out
          case round =>
            obtain ⟨j, hj, rfl, HJ, hKj⟩ := hrel
            have HKj := Lib.hid hKj
            have z3 : wr.cell? ⟨bx, 3, none⟩ = some (.slice ra R.length rc) := (HBX.out.kept HKj.out).cell 3
            clear hKj HB0
            by_cases hlt2 : j < R.length
            · obtain ⟨b2, off2, rfl, _, hq⟩ := Sl.at_ (RecsC.kept HR.out (HKb.out.trans HKj.out)) hlt2
              obtain ⟨q0, q1, q2, q3, q4, _⟩ := hq
              have j0 : (j : Int) < (R.length : Int) := by omega
              have HJ2 : Hid ((-1 ≤ (rcd R j).tgt ∧ (rcd R j).tgt < (n : Int)) → ∀ q, q < j + 1 → -1 ≤ (rcd R q).tgt ∧ (rcd R q).tgt < (n : Int)) := Lib.hid (fun h => upto_step HJ.out h)
              clear HJ q1 q2
              generalize (rcd R j).tgt = y at *
              have W2 : IntKind.i64.wrap y = y := by rw [IntKind.wrap_i64]; omega
              by_cases hd1 : y < -1
              · clear HJ2
                go_wp2_with fail
                go_ret
                exact ⟨⟨false, rfl, fun h => by cases h⟩, HKA.out.trans HKj.out⟩
              · by_cases hd2 : y < (n : Int)
                · have HJ3 := Lib.hid (HJ2.out ⟨by omega, hd2⟩)
                  clear HJ2
                  go_wp2_with fail
                  go_roundw
                  case rel => exact ⟨j + 1, by omega, by go_num, HJ3, HKj.out⟩
                  case measure => simp [intOf]; omega
                · clear HJ2
                  go_wp2_with fail
                  go_ret
                  exact ⟨⟨false, rfl, fun h => by cases h⟩, HKA.out.trans HKj.out⟩
            · obtain rfl : j = R.length := by omega
              have HOK3 := Lib.hid (HOK2.out HJ.out)
              obtain ⟨wp, rfl⟩ : ∃ wp : World, wp = wr := ⟨_, rfl⟩
              have z4 : wp.cell? ⟨bx, 4, none⟩ = some (.slice pa P.length pc) := (HBX.out.kept HKj.out).cell 4
              have HC0 : Hid (C7 wp F R.length P (.int .i64 0) wp) := Lib.hid ⟨0, by omega, rfl, Lib.hid (fun i hi => absurd hi (by omega)), Kept.refl _⟩
              clear HOK2 HJ
              go_wp2_with fail
              clear z3 z4
              go_loopw [8] (fun t8 W => C7 wp F R.length P t8 W) (fun t8 _ => P.length - (intOf t8).toNat)
              case atStart => exact HC0.out
              case round =>
                obtain ⟨j, hj, rfl, HJ, hKp⟩ := hrel
                obtain ⟨wq, rfl⟩ : ∃ wq : World, wq = wr := ⟨_, rfl⟩
                have HKp := Lib.hid hKp
                have HKa := Lib.hid (HKj.out.trans HKp.out)
                have z4 : wq.cell? ⟨bx, 4, none⟩ = some (.slice pa P.length pc) := (HBX.out.kept HKa.out).cell 4
                clear hKp HC0
                by_cases hlt2 : j < P.length
                · have hpk := PartsC.kept HP.out (HKb.out.trans HKa.out)
                  obtain ⟨b2, off2, rfl, _, ra2, rc2, da, dc, q0, q1, q2, q3, ⟨hr3, hr4, _⟩, ⟨hd3, hd4, _⟩, hX, hD⟩ := PartsC.at_ hpk hlt2
                  have HX := Lib.hid hX
                  have HD := Lib.hid hD
                  have j0 : (j : Int) < (P.length : Int) := by omega
                  have hl1 : (prt P j).recs.length ≤ 262144 := (HLk.out j hlt2).1
                  have hl2 : (prt P j).deps.length ≤ 262144 := (HLk.out j hlt2).2
                  have HJ2 : Hid ((∀ q, q < (prt P j).recs.length → nat (prt P j).recs q < R.length) → (∀ q, q < (prt P j).deps.length → DepOk F (lk.dep (prt P j).deps q)) → ∀ q, q < j + 1 → PartOk F R.length (prt P q)) := Lib.hid (fun h1 h2 => upto_step HJ.out ⟨h1, h2⟩)
                  clear HJ hX hD hpk
                  generalize (prt P j).recs = X at *
                  generalize (prt P j).deps = D at *
                  generalize (prt P j).rem = rm at *
                  generalize (prt P j).force = fo at *
                  have HKc := Lib.hid ((Kept.refl wq).alloc (.cells #[.slice ra2 X.length rc2, .slice da D.length dc, .bool rm, .bool fo] 135))
                  have HBY : Hid (Blk (wq.alloc (.cells #[.slice ra2 X.length rc2, .slice da D.length dc, .bool rm, .bool fo] 135)) wq.heap.size 135 [.slice ra2 X.length rc2, .slice da D.length dc, .bool rm, .bool fo]) := Lib.hid (Blk.new wq 135 _)
                  go_upto_region 18 with fail
                  clear q0 q1 q2 q3 z4
                  generalize wq.alloc (.cells #[.slice ra2 X.length rc2, .slice da D.length dc, .bool rm, .bool fo] 135) = wb at *
                  generalize wq.heap.size = by_ at *
                  have HD0 : Hid (D7 wb R.length X (.int .i64 0) wb) := Lib.hid ⟨0, by omega, rfl, Lib.hid (fun i hi => absurd hi (by omega)), Kept.refl _⟩
                  go_wp2_with fail
                  go_loopw [10] (fun t10 W => D7 wb R.length X t10 W) (fun t10 _ => X.length - (intOf t10).toNat)
                  case atStart => exact HD0.out
                  case round =>
                    obtain ⟨i, hi, rfl, HI, hKi⟩ := hrel
                    have HKi := Lib.hid hKi
                    have HKI := Lib.hid (HKc.out.trans HKi.out)
                    have y0 : wr.cell? ⟨by_, 0, none⟩ = some (.slice ra2 X.length rc2) := (HBY.out.kept HKi.out).cell 0
                    have z3 : wr.cell? ⟨bx, 3, none⟩ = some (.slice ra R.length rc) := (HBX.out.kept (HKa.out.trans HKI.out)).cell 3
                    clear hKi HD0
                    by_cases hlt3 : i < X.length
                    · obtain ⟨b3, off3, rfl, _, hq⟩ := Sl.at_ (U32sC.kept HX.out HKI.out) hlt3
                      obtain ⟨s0, s1⟩ := hq
                      simp only [Nat.mul_one] at s0
                      have i0 : (i : Int) < (X.length : Int) := by omega
                      have HI2 : Hid (nat X i < R.length → ∀ q, q < i + 1 → nat X q < R.length) := Lib.hid (fun h => upto_step HI.out h)
                      clear HI
                      generalize nat X i = y at *
                      have W3 : IntKind.u64.wrap (y : Int) = (y : Int) := by rw [IntKind.wrap_u64]; omega
                      have W4 : IntKind.u64.wrap (R.length : Int) = (R.length : Int) := by rw [IntKind.wrap_u64]; omega
                      by_cases hy : y < R.length
                      · have HI3 := Lib.hid (HI2.out hy)
                        have hy2 : (y : Int) < (R.length : Int) := by omega
                        clear HI2
                        go_wp2_with fail
                        go_quiet (fail)
                        go_wp2_with fail
                        go_roundw
                        case rel => exact ⟨i + 1, by omega, by go_num, HI3, HKi.out.drewN _⟩
                        case measure => simp [intOf]; omega
                      · have hy2 : (R.length : Int) ≤ (y : Int) := by omega
                        clear HI2
                        go_wp2_with fail
                        go_quiet (fail)
                        go_wp2_with fail
                        go_ret
                        exact ⟨⟨false, rfl, fun h => by cases h⟩, (HKA.out.trans (HKa.out.trans HKI.out)).drewN _⟩
                    · obtain rfl : i = X.length := by omega
                      have HJ3 := Lib.hid (HJ2.out HI.out)
                      obtain ⟨ws, rfl⟩ : ∃ ws : World, ws = wr := ⟨_, rfl⟩
                      have y1 : ws.cell? ⟨by_, 1, none⟩ = some (.slice da D.length dc) := (HBY.out.kept HKi.out).cell 1
                      have HE0 : Hid (E7 ws F D (.int .i64 0) ws) := Lib.hid ⟨0, by omega, rfl, Lib.hid (fun i hi => absurd hi (by omega)), Kept.refl _⟩
                      clear HJ2 HI
                      go_wp2_with fail
                      clear y0 z3 y1
                      go_loopw [11] (fun t11 W => E7 ws F D t11 W) (fun t11 _ => D.length - (intOf t11).toNat)
                      case atStart => exact HE0.out
                      case round =>
                        obtain ⟨i, hi, rfl, HI, hKe⟩ := hrel
                        have HKe := Lib.hid hKe
                        have HKall := Lib.hid (HKI.out.trans HKe.out)
                        have y1 : wr.cell? ⟨by_, 1, none⟩ = some (.slice da D.length dc) := (HBY.out.kept (HKi.out.trans HKe.out)).cell 1
                        clear hKe HE0
                        by_cases hlt3 : i < D.length
                        · obtain ⟨b3, off3, rfl, _, hq⟩ := Sl.at_ (DepsC.kept HD.out HKall.out) hlt3
                          obtain ⟨s0, s1, s2, s3⟩ := hq
                          have i0 : (i : Int) < (D.length : Int) := by omega
                          have HI2 : Hid (DepOk F (lk.dep D i) → ∀ q, q < i + 1 → DepOk F (lk.dep D q)) := Lib.hid (fun h => upto_step HI.out h)
                          clear HI
                          generalize lk.dep D i = y at *
                          obtain ⟨y1, y2⟩ := y
                          simp only at s0 s1 s2 s3
                          have HKd := Lib.hid ((Kept.refl wr).alloc (.cells #[.int .u32 (y1 : Int), .int .u32 (y2 : Int)] 139))
                          have HBZ : Hid (Blk (wr.alloc (.cells #[.int .u32 (y1 : Int), .int .u32 (y2 : Int)] 139)) wr.heap.size 139 [.int .u32 (y1 : Int), .int .u32 (y2 : Int)]) := Lib.hid (Blk.new wr 139 _)
                          go_upto_region 27 with fail
                          clear s0 s1
                          generalize wr.alloc (.cells #[.int .u32 (y1 : Int), .int .u32 (y2 : Int)] 139) = wz at *
                          generalize wr.heap.size = bz at *
                          have z0 : wz.cell? ⟨bz, 0, none⟩ = some (.int .u32 (y1 : Int)) := HBZ.out.cell 0
                          have z1 : wz.cell? ⟨bz, 1, none⟩ = some (.int .u32 (y2 : Int)) := HBZ.out.cell 1
                          have HKZ := Lib.hid (HKA.out.trans (HKa.out.trans (HKall.out.trans HKd.out)))
                          have W3 : IntKind.i64.wrap (y1 : Int) = (y1 : Int) := by rw [IntKind.wrap_i64]; omega
                          have W4 : IntKind.u64.wrap (y2 : Int) = (y2 : Int) := by rw [IntKind.wrap_u64]; omega
                          by_cases hy : y1 < n
                          · have hg := HF.out.kept HKZ.out
                            obtain ⟨b4, off4, e4, _, ra4, rc4, pa4, pc4, _, _, _, _, u4, _, _, _, _, _⟩ := hg.at_ (k := y1) (by rw [HN0.out]; exact hy)
                            cases e4
                            have hpl4 : (fl F y1).parts.length ≤ 262144 := (HL.out y1 hy).2.1
                            have W5 : IntKind.u64.wrap ((fl F y1).parts.length : Int) = ((fl F y1).parts.length : Int) := by rw [IntKind.wrap_u64]; omega
                            have hy2 : (y1 : Int) < (n : Int) := by omega
                            have hy3 : (0 : Int) ≤ (y1 : Int) := by omega
                            have HI3 : Hid (y2 < (fl F y1).parts.length → ∀ q, q < i + 1 → DepOk F (lk.dep D q)) := Lib.hid (fun h => HI2.out ⟨by rw [HN0.out]; exact hy, h⟩)
                            clear hg HI2
                            generalize (fl F y1).parts.length = m at *
                            by_cases hz : y2 < m
                            · have HI4 := Lib.hid (HI3.out hz)
                              have hz2 : (y2 : Int) < (m : Int) := by omega
                              clear HI3
                              go_wp2_with fail
                              go_quiet (fail)
                              go_wp2_with fail
                              go_roundw
                              case rel => exact ⟨i + 1, by omega, by go_num, HI4, (HKe.out.trans HKd.out).drewN _⟩
                              case measure => simp [intOf]; omega
                            · have hz2 : (m : Int) ≤ (y2 : Int) := by omega
                              clear HI3
                              go_wp2_with fail
                              go_quiet (fail)
                              go_wp2_with fail
                              go_ret
                              exact ⟨⟨false, rfl, fun h => by cases h⟩, HKZ.out.drewN _⟩
                          · have hy2 : (n : Int) ≤ (y1 : Int) := by omega
                            clear HI2
                            go_wp2_with fail
                            go_ret
                            exact ⟨⟨false, rfl, fun h => by cases h⟩, HKZ.out⟩
                        · obtain rfl : i = D.length := by omega
                          have HJ4 := Lib.hid (HJ3.out HI.out)
                          clear HJ3 HI
                          go_wp2_with fail
                          go_roundw
                          case rel => exact ⟨j + 1, by omega, by go_num, HJ4, HKp.out.trans HKall.out⟩
                          case measure => simp [intOf]; omega
                · obtain rfl : j = P.length := by omega
                  have HO4 := Lib.hid (HOK3.out HJ.out)
                  clear HOK3 HJ
                  go_wp2_with fail
                  go_roundw
                  case rel => exact ⟨k + 1, by omega, by go_num, HO4, HKA.out.trans HKa.out⟩
                  case measure => simp [intOf]; omega
        · have hc3 : (n : Int) ≤ x := by omega
          clear HOK
          go_wp2_with fail
          go_ret
          exact ⟨⟨false, rfl, fun h => by cases h⟩, HKA.out⟩
    · obtain rfl : n = k := by omega
      go_wp2_with fail
      go_ret
      exact ⟨⟨true, rfl, fun _ => by rw [HN0.out]; exact HO.out⟩, HK.out⟩
end Go.Proofs.Ytgnccfofhcbjjaa.lk
