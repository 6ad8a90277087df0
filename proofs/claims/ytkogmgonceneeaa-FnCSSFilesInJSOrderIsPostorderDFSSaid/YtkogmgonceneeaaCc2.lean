/-
  The walk of jsClone over this seat's program.
  Conditions: the files are readable and small.
-/
import Derived.Test.YtkogmgonceneeaaCc
namespace Go.Proofs.Ytkogmgonceneeaa.css
open Go.ChangeShapes Go.WideShapes Go.ChangeAt Go.RowKit
open kit dfs

def Cl (w : World) (n : Nat) (F : Ct) (e : Ending) (w' : World) : Prop := (∃ a' c', e = .returned (.slice a' n c') ∧ FilesC w' a' n F) ∧ Kept w w'
def A8 (w : World) (n : Nat) (F : Ct) (t4 : Value) (W : World) : Prop := ∃ k : Nat, k ≤ n ∧ t4 = .int .i64 (k : Int) ∧ Fk w W n F k
def B8 (w1 : World) (F : Ct) (i : Nat) (t7 : Value) (W : World) : Prop := ∃ j : Nat, j ≤ np F i ∧ t7 = .int .i64 (j : Int) ∧ Pk w1 W F i j
def C8 (w2 : World) (D : List Imp) (t9 : Value) (W : World) : Prop := ∃ q : Nat, q ≤ D.length ∧ t9 = .int .i64 (q : Int) ∧ Dk w2 W D q

set_option maxRecDepth 100000 in
set_option maxHeartbeats 16000000 in
theorem clone (w : World) (a : Option Addr) (n c : Nat) (F : Ct) (h : FilesC w a n F) (hn : n ≤ 131072) (hl : Lens F 131072 n) :
    Calls Try.prog 7 #[.slice a n c] w (Cl w n F) := by
  have heq := fun w : World => Go.run_eql_slice_nil (P := Try.prog) w 22 94 a n c Try.underlying22
  cases a with
  | none =>
    obtain rfl : n = 0 := by
      apply Classical.byContradiction
      intro hne
      obtain ⟨b, off, e, _⟩ := h.2 (by omega)
      cases e
    simp only [Option.isNone] at heq
    have HF := Lib.hid h
    clear h hl
    go_enter Try.func7, Try.ntmps7
    go_wp2_with fail
    go_ret
    exact ⟨⟨none, 0, rfl, HF.out⟩, Kept.refl _⟩
  | some ad =>
    simp only [Option.isNone] at heq
    obtain ⟨C1, l1, g1, m1⟩ := makeN (T := 22) (E := 94) (size := 3) (bytes := 32) Try.underlying22 (by kernel_rfl) n (by omega) (by omega)
    have z1 := g1 0 (.slice none 0 0) (by omega) (by kernel_rfl)
    simp only [Nat.add_zero] at z1
    have HA0 : Hid (A8 w n F (.int .i64 0) (w.alloc (.cells C1.toArray 94))) := Lib.hid ⟨0, Nat.zero_le _, rfl, (Kept.refl _).alloc _, C1, Blk.new _ _ _, l1, fun i hi => absurd hi (by omega), fun i _ hi => z1 i hi⟩
    have HF := Lib.hid h
    have HL := Lib.hid hl
    clear h hl g1 z1 l1
    go_enter Try.func7, Try.ntmps7
    go_wp2_with fail
    clear m1 heq
    generalize w.alloc (.cells C1.toArray 94) = wa at *
    go_loopw [4] (fun t4 W => A8 w n F t4 W) (fun t4 _ => n - (intOf t4).toNat)
    case atStart => exact HA0.out
    case round =>
      obtain ⟨k, hk, rfl, hFk⟩ := hrel
      obtain ⟨wo, rfl⟩ : ∃ wo : World, wo = wr := ⟨_, rfl⟩
      have HFk := Lib.hid hFk
      clear hFk HA0
      by_cases hlt : k < n
      · obtain ⟨b, off, pa, pc, e0, hb, c0, c1, c2, hc32, hpc, hpm, hp0, hP⟩ := HF.out.at_ hlt
        cases e0
        have nbw : b ≠ w.heap.size := by omega
        have HC00 := Lib.hid c0
        have e1 := HFk.out.kept.cell c1
        have e2 := HFk.out.kept.cell c2
        have HK1 := Lib.hid ((HFk.out.kept.setCell (p := ⟨w.heap.size, k * 3 + 1, none⟩) (Nat.le_refl _) (.bool (hasC F k))))
        have e3 := HK1.out.cell c2
        have HK2 := Lib.hid (HK1.out.setCell (p := ⟨w.heap.size, k * 3 + 2, none⟩) (Nat.le_refl _) (.int .u32 (cssOf F k : Int)))
        obtain ⟨cs0, hb0, hl0, _⟩ := HFk.out.row
        obtain ⟨v8, y8, y9⟩ := hb0.has (i := k * 3 + 1) (by omega)
        obtain ⟨v6, y6, y7⟩ := (hb0.set (k * 3 + 1) (.bool (hasC F k))).has (i := k * 3 + 2) (by rw [List.length_set]; omega)
        have HROW : Hid (∀ W2, Kept (flag wo w.heap.size F k) W2 → ∃ v, W2.cell? ⟨w.heap.size, k * 3, none⟩ = some v ∧ W2.frozen? ⟨w.heap.size, k * 3, none⟩ = false) := Lib.hid (fun W2 k2 => (((hb0.set (k * 3 + 1) (.bool (hasC F k))).set (k * 3 + 2) (.int .u32 (cssOf F k : Int))).kept k2).has (by simp; omega))
        have HSZ : Hid (w.heap.size + 1 ≤ wo.heap.size) := Lib.hid hb0.lt
        clear hb0 hl0 c1 c2
        have HP := Lib.hid hP
        have k0 : (k : Int) < (n : Int) := by omega
        have hnp : np F k ≤ 131072 := (HL.out k hlt).1
        have HLk := Lib.hid (HL.out k hlt).2
        have hpe := fun w : World => Go.run_eql_slice_nil (P := Try.prog) w 92 95 pa (np F k) pc Try.underlying92
        have HSKF := Lib.hid (HFk.out.skip hlt hc32)
        have HSTF := Lib.hid (fun (W2 : World) (pa : Option Addr) (kk : Kept (flag wo w.heap.size F k) W2) (hp : PartsN W2 (w.heap.size + 1) pa (fl F k).1) (h0 : pa = none → np F k = 0) => HFk.out.step hlt hc32 kk hp h0)
        clear c0 hP
        go_upto_region 9 with fail
        clear e1 e2 e3 y6 y7 y8 y9
        obtain ⟨wq, hwq⟩ : ∃ wq, wq = flag wo w.heap.size F k := ⟨_, rfl⟩
        have hwq2 := hwq
        unfold flag at hwq
        rw [← hwq] at HK2 ⊢
        rw [← hwq2] at HSKF HROW
        have HSTF : Hid (∀ (W2 : World) (pa : Option Addr), Kept wq W2 → PartsN W2 (w.heap.size + 1) pa (fl F k).1 → (pa = none → np F k = 0) → Fk w (W2.setCell ⟨w.heap.size, k * 3, none⟩ (.slice pa (np F k) (np F k))) n F (k + 1)) := by rw [hwq2]; exact HSTF
        have HSZ : Hid (w.heap.size + 1 ≤ wq.heap.size) := Lib.hid (by obtain ⟨v, q1, _⟩ := HROW.out wq (Kept.refl _); exact World.block_lt_of_cell? wq _ q1)
        clear hwq hwq2 HFk HK1
        have d0 := HK2.out.cell HC00.out
        cases pa with
        | none =>
          have hz : np F k = 0 := by have := hp0 rfl; omega
          have HZ := Lib.hid hz
          have HS := Lib.hid (HSKF.out hz)
          clear hz hp0
          simp only [Option.isNone] at hpe
          go_wp2_with fail
          go_roundw
          case rel => exact ⟨k + 1, by omega, by go_num, HS.out⟩
          case measure => simp [intOf]; omega
        | some pd =>
          simp only [Option.isNone] at hpe
          clear hp0
          obtain ⟨C2, l2, g2, m2⟩ := makeN (T := 92) (E := 95) (size := 1) (bytes := 24) Try.underlying92 (by kernel_rfl) (np F k) (by omega) (by omega)
          have z2 := g2 0 (.slice none 0 0) (by omega) (by kernel_rfl)
          simp only [Nat.mul_one, Nat.add_zero] at z2 l2
          have HB0 : Hid (B8 wq F k (.int .i64 0) (wq.alloc (.cells C2.toArray 95))) := Lib.hid ⟨0, Nat.zero_le _, rfl, (Kept.refl _).alloc _, C2, Blk.new _ _ _, l2, fun i hi => absurd hi (by omega), fun i _ hi => z2 i hi⟩
          clear g2 z2 l2
          go_wp2_with fail
          clear m2 hpe d0
          generalize wq.alloc (.cells C2.toArray 95) = wb at *
          go_loopw [7] (fun t7 W => B8 wq F k t7 W) (fun t7 _ => np F k - (intOf t7).toNat)
          case atStart => exact HB0.out
          case round =>
            obtain ⟨j, hj, rfl, hPk⟩ := hrel
            obtain ⟨wi, rfl⟩ : ∃ wi : World, wi = wr := ⟨_, rfl⟩
            have HPk := Lib.hid hPk
            clear hPk HB0
            have HKi := Lib.hid (HK2.out.trans HPk.out.kept)
            by_cases hlt2 : j < np F k
            · obtain ⟨b2, off2, da, dc, e2, hb2, c2, hd1, hd2, hd0, hD, h32⟩ := part_at HP.out hlt2
              cases e2
              have d2 := HKi.out.cell c2
              have HC2 := Lib.hid c2
              have HD := Lib.hid hD
              have H32 := Lib.hid h32
              have j0 : (j : Int) < (np F k : Int) := by omega
              have hdl : (imps F k j).length ≤ 131072 := HLk.out j hlt2
              have hde := fun w : World => Go.run_eql_slice_nil (P := Try.prog) w 95 97 da (imps F k j).length dc Try.underlying95
              have HSK := Lib.hid (HPk.out.skip hlt2)
              have HST := Lib.hid (fun (da2 : Option Addr) (W2 : World) (kk : Kept wi W2) (hd : ImpsN W2 (wq.heap.size + 1) da2 (imps F k j)) (h0 : da2 = none → (imps F k j).length = 0) => HPk.out.step hlt2 kk hd h0 hdl H32.out)
              have HB7 : Hid (∀ W2, Kept wi W2 → ∃ v, W2.cell? ⟨wq.heap.size, j, none⟩ = some v ∧ W2.frozen? ⟨wq.heap.size, j, none⟩ = false) := Lib.hid (fun W2 k2 => by
                obtain ⟨cs, hbk, hlk, _⟩ := HPk.out.row
                exact (hbk.kept k2).has (by omega))
              have HKw := HKi
              clear c2 hD h32 hb2
              cases da with
              | none =>
                have HSK2 := Lib.hid (HSK.out (by have := hd0 rfl; omega))
                clear hd0 HSK HST
                simp only [Option.isNone] at hde
                go_wp2_with fail
                go_roundw
                case rel => exact ⟨j + 1, by omega, by go_num, HSK2.out⟩
                case measure => simp [intOf]; omega
              | some dd =>
                clear hd0 HSK
                simp only [Option.isNone] at hde
                obtain ⟨C3, l3, g3, m3⟩ := makeN (T := 95) (E := 97) (size := 2) (bytes := 8) Try.underlying95 (by kernel_rfl) (imps F k j).length (by omega) (by omega)
                have HC0 : Hid (C8 wi (imps F k j) (.int .i64 0) (wi.alloc (.cells C3.toArray 97))) := Lib.hid ⟨0, Nat.zero_le _, rfl, (Kept.refl _).alloc _, C3, Blk.new _ _ _, l3, fun i _ hi => absurd hi (by omega)⟩
                clear g3 l3
                have HSZ7 : Hid (wq.heap.size + 1 ≤ wi.heap.size) := Lib.hid (by obtain ⟨v, q1, _⟩ := HB7.out wi (Kept.refl _); exact World.block_lt_of_cell? wi _ q1)
                go_wp2_with fail
                clear m3 hde d2
                generalize hDd : imps F k j = D at *
                have HDd := Lib.hid hDd
                clear hDd
                generalize wi.alloc (.cells C3.toArray 97) = wc at *
                go_loopw [9] (fun t9 W => C8 wi D t9 W) (fun t9 _ => D.length - (intOf t9).toNat)
                case atStart => exact HC0.out
                case round =>
                  obtain ⟨q, hq, rfl, hDk⟩ := hrel
                  have HDk := Lib.hid hDk
                  clear hDk HC0
                  have HKr := Lib.hid (HKw.out.trans HDk.out.kept)
                  have d2 := HKr.out.cell HC2.out
                  by_cases hlt3 : q < D.length
                  · obtain ⟨b3, off3, e3, _, hc3⟩ := HD.out (by omega)
                    cases e3
                    obtain ⟨s1, s2⟩ := hc3 q hlt3
                    have t1 := HKr.out.cell s1
                    have t2 := HKr.out.cell s2
                    have q0 : (q : Int) < (D.length : Int) := by omega
                    have HNX := Lib.hid (HDk.out.step hlt3)
                    obtain ⟨cs3, hb3, hl3, _⟩ := HDk.out.row
                    obtain ⟨v2, p1, p2⟩ := hb3.has (i := q * 2) (by omega)
                    obtain ⟨v3, p3, p4⟩ := hb3.has (i := q * 2 + 1) (by omega)
                    clear s1 s2 hc3 hb3 hl3
                    generalize D[q] = x at *
                    obtain ⟨x1, x2⟩ := x
                    simp only at t1 t2
                    go_wp2_with fail
                    go_roundw
                    case rel => exact ⟨q + 1, by omega, by go_num, HNX.out⟩
                    case measure => simp [intOf]; omega
                  · obtain rfl : q = D.length := by omega
                    have HNX := Lib.hid (HST.out (some ⟨wi.heap.size, 0, none⟩) _ HDk.out.kept (by first | exact HDk.out.toN HSZ7.out | (rw [HDd.out]; exact HDk.out.toN HSZ7.out)) (fun h => by cases h))
                    obtain ⟨v2, p1, p2⟩ := HB7.out _ HDk.out.kept
                    go_wp2_with fail
                    go_roundw
                    case rel => exact ⟨j + 1, by omega, by go_num, HNX.out⟩
                    case measure => simp [intOf]; omega
            · obtain rfl : j = np F k := by omega
              have HNX := Lib.hid (HSTF.out _ _ HPk.out.kept (HPk.out.toN HSZ.out) (fun h => by cases h))
              obtain ⟨v2, p1, p2⟩ := HROW.out _ HPk.out.kept
              go_wp2_with fail
              go_roundw
              case rel => exact ⟨k + 1, by omega, by go_num, HNX.out⟩
              case measure => simp [intOf]; omega
      · obtain rfl : k = n := by omega
        go_wp2_with fail
        go_ret
        exact ⟨⟨_, _, rfl, HFk.out.toC HF.out.1 HL.out⟩, HFk.out.kept⟩
end Go.Proofs.Ytkogmgonceneeaa.css
