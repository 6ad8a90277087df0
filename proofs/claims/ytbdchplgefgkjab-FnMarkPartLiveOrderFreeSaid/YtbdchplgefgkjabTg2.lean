/-
  The walk of tsBuild over this seat's program.
  Conditions: the files are readable and fit.
-/
import Derived.Test.YtbdchplgefgkjabTg
namespace Go.Proofs.Ytbdchplgefgkjab.tm
open Go.ChangeShapes Go.WideShapes Go.ChangeAt Go.RowKit
open kit dfs

def Built (w : World) (n : Nat) (F : Ct) (e : Ending) (w' : World) : Prop :=
  e = .returned (.tuple #[.slice (some ⟨w.heap.size, 0, none⟩) n n, .slice (some ⟨w.heap.size + 1, 0, none⟩) n n]) ∧ ∃ J PB DB, Bd w w' n n J PB DB F
def A11 (w : World) (n : Nat) (F : Ct) (t6 : Value) (W : World) : Prop := ∃ (i : Nat) (J PB : Nat → Nat) (DB : Nat → Nat → Nat), i ≤ n ∧ t6 = .int .i64 (i : Int) ∧ Bd w W n i J PB DB F
def B11 (w1 : World) (F : Ct) (i : Nat) (t8 : Value) (W : World) : Prop := ∃ (j : Nat) (DB : Nat → Nat), j ≤ np F i ∧ t8 = .int .i64 (j : Int) ∧ Pq w1 W F i j DB
def C11 (w2 : World) (D : List (Nat × Nat)) (t11 : Value) (W : World) : Prop := ∃ q : Nat, q ≤ D.length ∧ t11 = .int .i64 (q : Int) ∧ Dq w2 W D q

theorem partV_of (db nd : Nat) (k : Bool) : ∃ A, Try.prog.built 120 [(7, .slice (some ⟨db, 0, none⟩) nd nd), (8, .bool (!k))] = some A ∧ PartV db nd k A := by
  obtain ⟨A, h1, h2⟩ := Option.map_eq_some_iff.1 (show (Try.prog.built 120 [(7, .slice (some ⟨db, 0, none⟩) nd nd), (8, .bool (!k))]).map (fun A => (A.size, A.all (·.oneCell'), A.toList[2]?, A.toList[7]?, A.toList[8]?, A.toList[9]?, A.toList[10]?)) = some (11, true, some (.slice none 0 0), some (.slice (some ⟨db, 0, none⟩) nd nd), some (.bool (!k)), some (.bool false), some (.bool false)) by kernel_rfl)
  simp only [Prod.mk.injEq] at h2
  obtain ⟨a1, a2, a3, a4, a5, a6, a7⟩ := h2
  exact ⟨A, h1, a1, a2, a3, a4, a5, a6, a7⟩
set_option maxRecDepth 100000 in
set_option maxHeartbeats 16000000 in
theorem build (w : World) (a : Option Addr) (n c : Nat) (F : Ct) (h : FilesC w a n F) (hfit : Fits n F) :
    Calls Try.prog 11 #[.slice a n c] w (Built w n F) := by
  have hn := hfit.top
  obtain ⟨C1, l1, g1, m1⟩ := makeN (T := 93) (E := 181) (size := 24) (bytes := 280) Try.underlying93 (by kernel_rfl) n (by omega) (by omega)
  obtain ⟨C2, l2, g2, m2⟩ := makeN (T := 94) (E := 121) (size := 1) (bytes := 8) Try.underlying94 (by kernel_rfl) n (by omega) (by omega)
  obtain ⟨CS, hCS, hcs2⟩ : ∃ CS, Try.prog.built 154 [] = some CS ∧ (CS.size, CS[63]?) = (64, some (.int .u32 0)) := Option.map_eq_some_iff.1 (by kernel_rfl)
  simp only [Prod.mk.injEq] at hcs2
  have HCS := Lib.hid hCS
  have LS := Lib.hid hcs2
  simp only [Nat.mul_one] at l2
  have HA0 : Hid (A11 w n F (.int .i64 0) ((w.alloc (.cells C1.toArray 181)).alloc (.cells C2.toArray 121))) := Lib.hid ⟨0, fun _ => 0, fun _ => 0, fun _ _ => 0, Nat.zero_le _, rfl, ((Kept.refl _).alloc _).alloc _, ⟨C1, (Blk.new w 181 C1).alloc _, l1, fun j hj => absurd hj (by omega)⟩,
    ⟨C2, by have := Blk.new (w.alloc (.cells C1.toArray 181)) 121 C2; simpa using this, l2, fun j hj => absurd hj (by omega)⟩, fun j hj => absurd hj (by omega), fun j k hj => absurd hj (by omega)⟩
  have HF := Lib.hid h
  have HFit := Lib.hid hfit
  clear h hfit hCS hcs2 g1 g2 l1 l2
  go_enter Try.func11, Try.ntmps11
  go_wp2_with fail
  clear m1 m2
  generalize (w.alloc (.cells C1.toArray 181)).alloc (.cells C2.toArray 121) = wa at *
  go_loopw [6] (fun t6 W => A11 w n F t6 W) (fun t6 _ => n - (intOf t6).toNat)
  case atStart => exact HA0.out
  case round =>
    obtain ⟨i, J, PB, DB, hi, rfl, hB⟩ := hrel
    obtain ⟨wo, rfl⟩ : ∃ wo : World, wo = wr := ⟨_, rfl⟩
    have HB := Lib.hid hB
    clear hB HA0
    by_cases hlt : i < n
    · obtain ⟨b, off, pa, pc, rfl, hb, c0, hpc, hpm, hp0, hP⟩ := HF.out.at_ hlt
      have HC0 := Lib.hid c0
      have d0 := HB.out.kept.cell c0
      have HP := Lib.hid hP
      have k0 : (i : Int) < (n : Int) := by omega
      have hnp : np F i ≤ 131072 := HFit.out.np i hlt
      obtain ⟨C3, l3, o3, g3, m3⟩ := makeN1 (T := 108) (E := 120) (size := 11) (bytes := 152) Try.underlying108 (by kernel_rfl) (by kernel_rfl) (np F i) (by omega) (by omega)
      have HB0 : Hid (B11 wo F i (.int .i64 0) (wo.alloc (.cells C3.toArray 120))) := Lib.hid ⟨0, fun _ => 0, Nat.zero_le _, rfl, (Kept.refl _).alloc _, ⟨C3, Blk.new _ _ _, l3, o3, fun p hp => absurd hp (by omega)⟩, fun p hp => absurd hp (by omega)⟩
      clear c0 hP hp0 g3 l3 o3
      go_wp2_with fail
      clear m3 d0
      generalize wo.alloc (.cells C3.toArray 120) = wb at *
      go_loopw [8] (fun t8 W => B11 wo F i t8 W) (fun t8 _ => np F i - (intOf t8).toNat)
      case atStart => exact HB0.out
      case round =>
        obtain ⟨j, Db, hj, rfl, hPq⟩ := hrel
        obtain ⟨wi, rfl⟩ : ∃ wi : World, wi = wr := ⟨_, rfl⟩
        have HPq := Lib.hid hPq
        clear hPq HB0
        have HKi := Lib.hid (HB.out.kept.trans HPq.out.kept)
        have d0 := HKi.out.cell HC0.out
        by_cases hlt2 : j < np F i
        · obtain ⟨b2, off2, da, dc, rfl, hb2, c1, c2, hd1, hd2, hd0, hD, h32⟩ := part_at HP.out hlt2
          have d1 := HKi.out.cell c1
          have d2 := HKi.out.cell c2
          have HD := Lib.hid hD
          have j0 : (j : Int) < (np F i : Int) := by omega
          have hdl : (deps F i j).length ≤ 131072 := HFit.out.nd i hlt j hlt2
          clear c1 c2 hD h32 hb2 hd0
          go_upto_region 11 with fail
          have HKb := Lib.hid ((Kept.refl wi).alloc (.cells #[.bool (keep F i j), .slice da (deps F i j).length dc] 107))
          have B7 : Hid (Blk (wi.alloc (.cells #[.bool (keep F i j), .slice da (deps F i j).length dc] 107)) wi.heap.size 107 [.bool (keep F i j), .slice da (deps F i j).length dc]) := Lib.hid (Blk.new wi 107 _)
          clear d0 d1 d2
          generalize wi.alloc (.cells #[.bool (keep F i j), .slice da (deps F i j).length dc] 107) = w7 at *
          generalize wi.heap.size = bx at *
          have z1 : w7.cell? ⟨bx, 1, none⟩ = some (.slice da (deps F i j).length dc) := B7.out.cell 1
          obtain ⟨C4, l4, g4, m4⟩ := makeN (T := 109) (E := 111) (size := 2) (bytes := 8) Try.underlying109 (by kernel_rfl) (deps F i j).length (by omega) (by omega)
          have HC4 : Hid (C11 w7 (deps F i j) (.int .i64 0) (w7.alloc (.cells C4.toArray 111))) := Lib.hid ⟨0, Nat.zero_le _, rfl, (Kept.refl _).alloc _, C4, Blk.new _ _ _, l4, fun q _ hq => absurd hq (by omega)⟩
          clear g4 l4
          go_wp2_with fail
          clear m4 z1
          generalize w7.alloc (.cells C4.toArray 111) = wc at *
          go_loopw [11] (fun t11 W => C11 w7 (deps F i j) t11 W) (fun t11 _ => (deps F i j).length - (intOf t11).toNat)
          case atStart => exact HC4.out
          case round =>
            obtain ⟨q, hq, rfl, hDq⟩ := hrel
            have HDq := Lib.hid hDq
            clear hDq HC4
            have z1 : wr.cell? ⟨bx, 1, none⟩ = some (.slice da (deps F i j).length dc) := (B7.out.kept HDq.out.kept).cell 1
            have z0 : wr.cell? ⟨bx, 0, none⟩ = some (.bool (keep F i j)) := (B7.out.kept HDq.out.kept).cell 0
            by_cases hlt3 : q < (deps F i j).length
            · obtain ⟨b3, off3, rfl, _, hc3⟩ := HD.out (by omega)
              obtain ⟨s1, s2⟩ := hc3 q hlt3
              have HKr := Lib.hid ((HKi.out.trans HKb.out).trans HDq.out.kept)
              have t1 := HKr.out.cell s1
              have t2 := HKr.out.cell s2
              have q0 : (q : Int) < ((deps F i j).length : Int) := by omega
              have q00 : (0 : Int) ≤ (q : Int) := by omega
              obtain ⟨cs3, hb3, hl3, _⟩ := HDq.out.row
              obtain ⟨v2, p1, p2⟩ := hb3.has (i := q * 2) (by omega)
              obtain ⟨v3, p3, p4⟩ := hb3.has (i := q * 2 + 1) (by omega)
              have HNX := Lib.hid ((HDq.out.kept2 (Kept.refl wr).drew).step hlt3)
              clear s1 s2 hc3 hb3 hl3
              generalize (deps F i j)[q] = x at *
              obtain ⟨x1, x2⟩ := x
              simp only at t1 t2
              go_wp2_with fail
              go_still_tail 16, (by kernel_rfl)
              change wpList _ _ _ _ _ wr.drew
              go_wp2_with fail
              go_roundw
              case rel => exact ⟨q + 1, by omega, by go_num, HNX.out⟩
              case measure => simp [intOf]; omega
            · obtain rfl : q = (deps F i j).length := by omega
              have hdb := HDq.out.fin
              have HKx := Lib.hid (HKb.out.trans HDq.out.kept)
              obtain ⟨A, hA, hAV⟩ := partV_of w7.heap.size (deps F i j).length (keep F i j)
              have HAV := Lib.hid hAV
              have HA := Lib.hid hA
              have HNX := Lib.hid (HPq.out.step hlt2 HKx.out hdb hAV)
              obtain ⟨c9, hb9, hl9, _⟩ := HPq.out.row
              have hth : wr.there wo.heap.size (j * 11) A.size := (hb9.kept HKx.out).there (by rw [hAV.1, hl9]; have := Nat.mul_le_mul_right 11 (show j + 1 ≤ np F i by omega); omega)
              have hsA : (Try.prog.info? 120).map (·.size) = some A.size := by rw [hAV.1]; exact sizeP
              have hoA : A.all (·.oneCell') = true := hAV.2.1
              clear hdb hA hAV hb9 hl9
              generalize keep F i j = kp at *
              generalize (deps F i j).length = dl at *
              go_wp2_with (first | (refine wpList_build1 rfl 120 _ rfl [(7, .slice (some ⟨w7.heap.size, 0, none⟩) dl dl), (8, .bool (!kp))] ?hL1 A HA.out ?_) | (with_reducible refine wpList_store_mid rfl 120 (.tmp 84) (.tmp 83) rfl wo.heap.size (j * 11) A rfl rfl hth hsA hoA ?_))
              go_roundw
              case rel => exact ⟨j + 1, _, by omega, by go_num, HNX.out⟩
              case measure => simp [intOf]; omega
        · obtain rfl : j = np F i := by omega
          have hj1 : Blk (wi.alloc (.cells CS 154)) wi.heap.size 154 CS.toList := by have := Blk.new wi 154 CS.toList; simpa using this
          have HJ1 := Lib.hid hj1
          have HK1 := Lib.hid ((Kept.refl wi).alloc (.cells CS 154))
          clear hj1
          go_upto_region 18 with (with_reducible refine wp_build0 rfl 154 rfl CS HCS.out ?_)
          have hsz : wo.heap.size ≤ wi.heap.size := HPq.out.kept.size
          generalize wi.alloc (.cells CS 154) = w8 at *
          obtain ⟨v4, p1, p2⟩ := HJ1.out.has (i := 20) (by rw [Array.length_toList, LS.out.1]; omega)
          have hone : One (w8.setCell ⟨wi.heap.size, 20, none⟩ (.slice (some ⟨wo.heap.size, 0, none⟩) (np F i) (np F i))) wi.heap.size wo.heap.size Db F i := by
            obtain ⟨rc, rb, rl, ro, r2⟩ := HPq.out.row
            refine ⟨⟨_, HJ1.out.set 20 _, by rw [List.getElem?_set_self (by rw [Array.length_toList, LS.out.1]; omega)], by rw [List.getElem?_set_ne (by omega)]; simpa using LS.out.2⟩, ⟨rc, (rb.kept HK1.out).far ((rb.kept HK1.out).apart HJ1.out (by decide)) _, rl, ro, r2⟩, fun p hp => ?_⟩
            have := (HPq.out.dps p hp).kept HK1.out
            exact this.far (this.apart HJ1.out (by decide)) _
          have HONE := Lib.hid hone
          have HK9 := Lib.hid ((HPq.out.kept.trans HK1.out).setCell (p := ⟨wi.heap.size, 20, none⟩) hsz (.slice (some ⟨wo.heap.size, 0, none⟩) (np F i) (np F i)))
          clear hone
          go_upto_region 19 with fail
          generalize w8.setCell ⟨wi.heap.size, 20, none⟩ (.slice (some ⟨wo.heap.size, 0, none⟩) (np F i) (np F i)) = w9 at *
          clear p1 p2 HJ1 HK1
          obtain ⟨r1, pr1, pl1, _⟩ := HB.out.reprs
          obtain ⟨v5, p3, p4⟩ := (pr1.kept HK9.out).has (i := i) (by omega)
          clear pr1 pl1
          go_upto_region 20 with fail
          go_wp2_with fail
          refine (jsFile _ wi.heap.size).mono ?_
          rintro e w10 ⟨A, rfl, hA, k10⟩
          have HNX := Lib.hid (HB.out.step HK9.out HONE.out (Nat.le_refl _) hlt k10 hA)
          obtain ⟨c7, q7, l7, _⟩ := HB.out.files
          have q8 := ((q7.kept HK9.out).far (p := ⟨w.heap.size + 1, i, none⟩) (by show w.heap.size ≠ w.heap.size + 1; omega) (.pointer (some ⟨wi.heap.size, 0, none⟩))).kept k10
          have hth : w10.there w.heap.size (i * 24) A.size := q8.there (by rw [hA.1, l7]; have := Nat.mul_le_mul_right 24 (show i + 1 ≤ n by omega); omega)
          have hsA : (Try.prog.info? 181).map (·.size) = some A.size := by rw [hA.1]; exact sizeF
          have hoA : A.all (·.oneCell') = true := hA.2.2.2
          clear q7 l7 q8 k10 hA p3 p4 HONE HK9
          go_wp2_with (with_reducible refine wpList_store_mid rfl 181 (.tmp 100) (.tmp 99) rfl w.heap.size (i * 24) A rfl rfl hth hsA hoA ?_)
          go_roundw
          case rel => exact ⟨i + 1, _, _, _, by omega, by go_num, HNX.out⟩
          case measure => simp [intOf]; omega
    · obtain rfl : n = i := by omega
      go_wp2_with fail
      go_ret2
      exact ⟨rfl, J, PB, DB, HB.out⟩
end Go.Proofs.Ytbdchplgefgkjab.tm
