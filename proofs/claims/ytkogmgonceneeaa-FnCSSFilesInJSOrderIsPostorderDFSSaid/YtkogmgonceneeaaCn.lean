/-
  The walk of jsModel over this seat's program.
  Conditions: the files are readable and fit.
-/
import Derived.Test.YtkogmgonceneeaaCc2
import Derived.Test.YtkogmgonceneeaaCp
namespace Go.Proofs.Ytkogmgonceneeaa.css
open Go.ChangeShapes Go.WideShapes Go.ChangeAt Go.RowKit
open kit dfs

theorem rem_pos {F : Ct} {v p k : Nat} (hk : k ≤ plen F v p) : 1 ≤ rem F v p k := by
  by_cases h : p < np F v
  · have := remP_step h
    have := remP_pos F v (p + 1)
    unfold rem
    omega
  · have h0 : plen F v p = 0 := by unfold plen; rw [imps_out (by omega)]; rfl
    rw [h0] at hk
    have := remP_pos F v p
    unfold rem
    omega
def uc (v : Nat) : List Value := [.int .u32 (v : Int)]
def ic (v : Nat) : List Value := [.int .i64 (v : Int)]
/-- the machine in memory: three stacks, the output, the row of what has been visited; m: what it still has to do -/
def M8 (w : World) (n : Nat) (F : Ct) (e q m : Nat) (t6 t7 t8 t9 : Value) (W : World) : Prop :=
  ∃ st s, Mc n F e st s ∧ m = wsum F s.d n + ssum F st ∧ Wk W w.heap.size 23 1 (fun v : Nat => [.int .u32 (v : Int)]) t6 (st.map (·.1)) ∧ Wk W w.heap.size 3 1 (fun v : Nat => [.int .i64 (v : Int)]) t7 (st.map (·.2.1)) ∧ Wk W w.heap.size 3 1 (fun v : Nat => [.int .i64 (v : Int)]) t8 (st.map (·.2.2)) ∧
    Wk W w.heap.size 23 1 (fun v : Nat => [.int .u32 (v : Int)]) t9 s.o ∧ Bools W q n s.d ∧ Kept w W ∧ (∀ g, t6.ownBlock = some g → t9.ownBlock ≠ some g) ∧ ∀ g, t7.ownBlock = some g → t8.ownBlock ≠ some g
def AM (w : World) (n : Nat) (F : Ct) (e q : Nat) (t6 t7 t8 t9 : Value) (W : World) : Prop := ∃ m, M8 w n F e q m t6 t7 t8 t9 W
def Out8 (w : World) (F : Ct) (e : Nat) (r : Ending) (w' : World) : Prop := ∃ s t, r = .returned t ∧ Run (T F) (C F) [e] ⟨fun _ => false, []⟩ s ∧ Wk w' w.heap.size 23 1 (fun v : Nat => [.int .u32 (v : Int)]) t s.o ∧ Kept w w'

set_option maxRecDepth 100000 in
set_option maxHeartbeats 16000000 in
theorem model (w : World) (a : Option Addr) (n c e : Nat) (F : Ct) (h : FilesC w a n F) (hfit : Fits n F) (he : e < n) :
    Calls Try.prog 8 #[.slice a n c, .int .u32 (e : Int)] w (Out8 w F e) := by
  have hn := hfit.top
  obtain ⟨i0, hi, hz0, hz1, hz2⟩ := info_parts info23
  obtain ⟨i3, hj, hy0, hy1, hy2⟩ := info_parts info3
  obtain ⟨C1, l1, g1, m1⟩ := makeN (T := 98) (E := 4) (size := 1) (bytes := 1) Try.underlying98 (by kernel_rfl) n (by omega) (by omega)
  have z1 := g1 0 (.bool false) (by omega) (by kernel_rfl)
  simp only [Nat.mul_one, Nat.add_zero] at z1 l1
  have HF := Lib.hid h
  have HFit := Lib.hid hfit
  have e0 : (e : Int) < (n : Int) := by omega
  have hB0 := Bools.made w l1 z1
  have HB0 := Lib.hid hB0
  clear h hfit g1 z1 l1 hB0
  go_enter Try.func8, Try.ntmps8
  go_upto_region 2 with fail
  clear m1
  go_upto_region 5 with fail
  have hk1 : Kept w (w.alloc (.cells C1.toArray 4)) := (Kept.refl w).alloc _
  obtain ⟨wx, hwx⟩ : ∃ wx, wx = w.alloc (.cells C1.toArray 4) := ⟨_, rfl⟩
  have hsx : wx.heap.size = w.heap.size + 1 := by rw [hwx]; simp
  have HB1 : Hid (Bools wx w.heap.size n fun _ => false) := by rw [hwx]; exact HB0
  rw [← hwx] at hk1 ⊢
  clear hwx HB0
  have s6 := Wk.one (E := 23) (e := fun v : Nat => .int .u32 (v : Int)) (base := w.heap.size) wx (by omega) e
  have s7 := Wk.one (E := 3) (e := fun v : Nat => .int .i64 (v : Int)) (base := w.heap.size) (wx.alloc (.cells #[.int .u32 (e : Int)] 23)) (by simp; omega) 0
  have s8 := Wk.one (E := 3) (e := fun v : Nat => .int .i64 (v : Int)) (base := w.heap.size) ((wx.alloc (.cells #[.int .u32 (e : Int)] 23)).alloc (.cells #[.int .i64 0] 3)) (by simp; omega) 0
  have b6 : w.heap.size + 1 = wx.heap.size := hsx.symm
  rw [b6]
  have b7 : (wx.alloc (.cells #[.int .u32 (e : Int)] 23)).heap.size = wx.heap.size + 1 := by simp
  have b8 : ((wx.alloc (.cells #[.int .u32 (e : Int)] 23)).alloc (.cells #[.int .i64 0] 3)).heap.size = wx.heap.size + 1 + 1 := by simp
  rw [b7] at s7
  rw [b8] at s8
  have S6 := Lib.hid ((s6.kept ((Kept.refl _).alloc (.cells #[.int .i64 0] 3))).kept ((Kept.refl _).alloc (.cells #[.int .i64 0] 3)))
  have S7 := Lib.hid (s7.kept ((Kept.refl _).alloc (.cells #[.int .i64 0] 3)))
  have S8 := Lib.hid s8
  have hk2 : Kept wx (((wx.alloc (.cells #[.int .u32 (e : Int)] 23)).alloc (.cells #[.int .i64 0] 3)).alloc (.cells #[.int .i64 0] 3)) := (((Kept.refl wx).alloc _).alloc _).alloc _
  have HB2 := Lib.hid (HB1.out.kept hk2)
  have HK2 := Lib.hid (hk1.trans hk2)
  clear s6 s7 s8 hk1 hk2 b7 b8 HB1
  generalize ((wx.alloc (.cells #[.int .u32 (e : Int)] 23)).alloc (.cells #[.int .i64 0] 3)).alloc (.cells #[.int .i64 0] 3) = w4 at *
  have y1 := HB2.out.cell he
  have y2 := HB2.out.free e
  have HA0 : Hid (AM w n F e w.heap.size (.slice (some ⟨wx.heap.size, 0, none⟩) 1 1) (.slice (some ⟨wx.heap.size + 1, 0, none⟩) 1 1) (.slice (some ⟨wx.heap.size + 1 + 1, 0, none⟩) 1 1) (.slice none 0 0) (w4.setCell ⟨w.heap.size, e, none⟩ (.bool true))) := Lib.hid
    ⟨_, [(e, 0, 0)], St.mark ⟨fun _ => false, []⟩ e, Mc.start he, rfl, S6.out.far (by simp [Value.ownBlock]; omega) _, S7.out.far (by simp [Value.ownBlock]; omega) _, S8.out.far (by simp [Value.ownBlock]; omega) _, Wk.nil _, (HB2.out.set he true).congr (fun x _ => rfl), HK2.out.setCell (Nat.le_refl _) _, fun g _ h => by simp [Value.ownBlock] at h, fun g hg => by simp [Value.ownBlock] at hg ⊢; omega⟩
  go_wp2_with fail
  clear S6 S7 S8 HB2 HK2 y1 y2
  generalize w4.setCell ⟨w.heap.size, e, none⟩ (.bool true) = wa at *
  clear b6 hsx
  generalize wx.heap.size = sx at *
  go_loopw [6, 7, 8, 9] (fun t6 t7 t8 t9 W => AM w n F e w.heap.size t6 t7 t8 t9 W) (fun t6 t7 t8 t9 W => least fun m => M8 w n F e w.heap.size m t6 t7 t8 t9 W)
  case atStart => exact HA0.out
  case round =>
    obtain ⟨m0, hm0⟩ := hrel
    have hm := least_is (P := fun m => M8 w n F e w.heap.size m _ _ _ _ wr) hm0
    clear hm0 HA0
    generalize hL : least (fun m => M8 w n F e w.heap.size m _ _ _ _ wr) = L at hm ⊢
    obtain ⟨st, s, hM, hL2, h6, h7, h8, h9, hB, hK, hs1, hs2⟩ := hm
    rcases List.eq_nil_or_concat st with rfl | ⟨st, x, rfl⟩
    · obtain ⟨⟨a6, c6, rfl⟩, _⟩ := h6
      have HM := Lib.hid hM
      have H9 := Lib.hid h9
      have HK := Lib.hid hK
      clear hM h7 h8 h9 hB hK hs1 hs2 hL hL2
      go_wp2_with fail
      go_ret
      exact ⟨s, _, rfl, HM.out.fin, H9.out, HK.out⟩
    · obtain ⟨v, p, k⟩ := x
      rw [List.concat_eq_append] at hM hL2 h6 h7 h8
      simp only [List.map_append, List.map_cons, List.map_nil] at h6 h7 h8
      obtain ⟨g6, c6, rfl, n6, b6, o6, lo6, lt6, x6, f6, P6, _⟩ := h6.top
      obtain ⟨g7, c7, rfl, n7, b7, o7, lo7, lt7, x7, f7, P7, U7⟩ := h7.top
      obtain ⟨g8, c8, rfl, n8, b8, o8, lo8, lt8, x8, f8, P8, U8⟩ := h8.top
      simp only [List.length_map] at n6 n7 n8 x6 x7 x8 f6 f7 f8 P6 P7 P8 U7 U8 h6 h7 h8 hs1 hs2 hL ⊢
      obtain ⟨hv, hp, hk⟩ := hM.inn (v, p, k) (by simp)
      simp only at hv hp hk
      rw [ssum_append, ssum_one] at hL2
      have HM := Lib.hid hM
      have H6 := Lib.hid h6
      have H7 := Lib.hid h7
      have H8 := Lib.hid h8
      have H9 := Lib.hid h9
      have HBs := Lib.hid hB
      have HK := Lib.hid hK
      have HP6 := Lib.hid P6
      have HP7 := Lib.hid P7
      have HP8 := Lib.hid P8
      have HU7 := Lib.hid U7
      have HU8 := Lib.hid U8
      have HL2 := Lib.hid hL2
      clear hM h6 h7 h8 h9 hB hK P6 P7 P8 U7 U8 hL2 o6 o7 o8
      obtain ⟨b, off, pa, pc, ea, hb, c0, c1, c2, hc32, hpc, hpm, hp0, hP⟩ := HF.out.at_ hv
      subst ea
      have d0 := HK.out.cell c0
      have v0 : (v : Int) < (n : Int) := by omega
      have hst : st.length < 9223372036854775807 := by unfold maxLen at b6; omega
      have hnp := HFit.out.np v hv
      generalize hsl : st.length = sl at *
      have HSL := Lib.hid hsl
      have HLE := Lib.hid hL
      clear hsl hL
      by_cases hpe : np F v ≤ p
      · have hpi : (np F v : Int) ≤ (p : Int) := by omega
        cases hcv : hasC F v
        · rw [hcv] at c1
          have d1 := HK.out.cell c1
          have HNX : Hid (∀ t6 t7 t8 : Value, Wk wr w.heap.size 23 1 (fun v : Nat => [.int .u32 (v : Int)]) t6 (st.map (·.1)) → Wk wr w.heap.size 3 1 (fun v : Nat => [.int .i64 (v : Int)]) t7 (st.map (·.2.1)) → Wk wr w.heap.size 3 1 (fun v : Nat => [.int .i64 (v : Int)]) t8 (st.map (·.2.2)) →
              (∀ g, t6.ownBlock = some g → u9.ownBlock ≠ some g) → (∀ g, t7.ownBlock = some g → t8.ownBlock ≠ some g) → M8 w n F e w.heap.size (wsum F s.d n + ssum F st) t6 t7 t8 u9 wr) := Lib.hid (fun t6 t7 t8 q6 q7 q8 qa qb => ⟨st, s.emit (C F) v, HM.out.pop hpe, rfl, q6, q7, q8, by
                have : (s.emit (C F) v).o = s.o := by simp [St.emit, C, hcv]
                rw [this]; exact H9.out, HBs.out, HK.out, qa, qb⟩)
          have hlt : wsum F s.d n + ssum F st < L := by have := HL2.out; have := rem_pos (F := F) (v := v) hk; omega
          go_wp2_with fail
          go_roundw
          case rel => exact ⟨_, HNX.out _ _ _ HP6.out HP7.out HP8.out hs1 hs2⟩
          case measure => exact Nat.lt_of_le_of_lt (least_le (HNX.out _ _ _ HP6.out HP7.out HP8.out hs1 hs2)) (Nat.lt_of_lt_of_eq hlt HLE.out.symm)
        · rw [hcv] at c1
          have d1 := HK.out.cell c1
          have d2 := HK.out.cell c2
          have ho := HM.out.len
          simp only [List.length_append, List.length_singleton] at ho
          have hwr := HK.out.size
          have hown9 := H9.out
          obtain ⟨⟨a9, c9, rfl⟩, o9⟩ := hown9
          have hlt : wsum F s.d n + ssum F st < L := by have := HL2.out; have := rem_pos (F := F) (v := v) hk; omega
          have HCV := Lib.hid hcv
          clear hcv
          go_wp2_with (at_builtin; refine wpList_append_own_at (P := Try.prog) (w := _) rfl _ _ 27 rfl w.heap.size 23 i0 (.int .u32 0) 1 4 Try.underlying27 hi hz0 hz1 hz2 rfl (by decide) _ _ _ rfl (o9.alloc _) ⟨wr.heap.size, 0, none⟩ 1 1 [.int .u32 (cssOf F v : Int)] rfl rfl (newsOf wr [.int .u32 (cssOf F v : Int)] 23) (by simp [Value.oneCell']) (by unfold maxLen; omega) (by omega) (by simp; omega) ?_; intro v9 w9 hown9 hg9 _ hat9)
          have hpu := push1 (u := cssOf F v) (e := fun v : Nat => .int .u32 (v : Int)) HK.out H9.out hown9 hg9 hat9
          have hsp6 : ∀ k, Value.ownBlock (.slice a9 s.o.length c9) = some k → Value.ownBlock (.slice (some ⟨g6, 0, none⟩) sl c6) ≠ some k := fun k a b => hs1 k b a
          have HNX : Hid (M8 w n F e w.heap.size (wsum F s.d n + ssum F st) (.slice (some ⟨g6, 0, none⟩) sl c6) (.slice (some ⟨g7, 0, none⟩) sl c7) (.slice (some ⟨g8, 0, none⟩) sl c8) v9 w9) := Lib.hid ⟨st, s.emit (C F) v, HM.out.pop hpe, rfl, hpu.2.2.wk HP6.out hsp6, hpu.2.2.wk HP7.out (own_apart H9.out.2 HP7.out.2 (by decide)), hpu.2.2.wk HP8.out (own_apart H9.out.2 HP8.out.2 (by decide)), by
                have : (s.emit (C F) v).o = s.o ++ [cssOf F v] := by simp [St.emit, C, HCV.out]
                rw [this]; exact hpu.1, hpu.2.2.blk HBs.out (HBs.out.notOwned H9.out.2 (by decide)), hpu.2.1, fun g a b => hpu.2.2.sep HP6.out hsp6 g b a, hs2⟩
          clear hpu hown9 hg9 hat9 hsp6 o9 d1 d2
          go_wp2_with fail
          go_roundw
          case rel => exact ⟨_, HNX.out⟩
          case measure => exact Nat.lt_of_le_of_lt (least_le HNX.out) (Nat.lt_of_lt_of_eq hlt HLE.out.symm)
      · have hpi : ¬ (np F v : Int) ≤ (p : Int) := by omega
        obtain ⟨b2, off2, da, dc, e2, hb2, c3, hd1, hd2, hd0, hD, h32⟩ := part_at hP (p := p) (by omega)
        subst e2
        have d3 := HK.out.cell c3
        have j0 : (p : Int) < (np F v : Int) := by omega
        have g78 : g8 ≠ g7 := fun e => hs2 g7 rfl (by rw [e]; rfl)
        have hpl : (imps F v p).length = plen F v p := rfl
        rw [hpl] at d3 hd1
        by_cases hke : plen F v p ≤ k
        · have hki : (plen F v p : Int) ≤ (k : Int) := by omega
          have u7 := HU7.out (p + 1)
          have u8 := (H8.out.far (p := ⟨g7, sl, none⟩) (by simp [Value.ownBlock]; exact g78) (.int .i64 ((p + 1 : Nat) : Int)))
          have hlt : wsum F s.d n + (ssum F st + rem F v (p + 1) 0) < L := by have := HL2.out; have := rem_part (F := F) (v := v) (p := p) (k := k) (by omega) (by omega); omega
          rw [show ((p + 1 : Nat) : Int) = (p : Int) + 1 by omega] at u7 u8
          have HKa := Lib.hid (HK.out.setCell (p := ⟨g7, sl, none⟩) lo7 (.int .i64 ((p : Int) + 1)))
          have HBa := Lib.hid (HBs.out.far (p := ⟨g7, sl, none⟩) (fun e => HBs.out.notOwned H7.out.2 (by decide) (by rw [e]; rfl)) (.int .i64 ((p : Int) + 1)))
          have HNXf : Hid (∀ t6 t7 t8 W, Wk W w.heap.size 23 1 (fun v : Nat => [.int .u32 (v : Int)]) t6 (st.map (·.1) ++ [v]) → Wk W w.heap.size 3 1 (fun v : Nat => [.int .i64 (v : Int)]) t7 (st.map (·.2.1) ++ [p + 1]) → Wk W w.heap.size 3 1 (fun v : Nat => [.int .i64 (v : Int)]) t8 (st.map (·.2.2) ++ [0]) →
              Wk W w.heap.size 23 1 (fun v : Nat => [.int .u32 (v : Int)]) u9 s.o → Bools W w.heap.size n s.d → Kept w W → (∀ g, t6.ownBlock = some g → u9.ownBlock ≠ some g) → (∀ g, t7.ownBlock = some g → t8.ownBlock ≠ some g) → M8 w n F e w.heap.size (wsum F s.d n + (ssum F st + rem F v (p + 1) 0)) t6 t7 t8 u9 W) :=
            Lib.hid (fun t6 t7 t8 W q6 q7 q8 q9 qb qk qa qc => ⟨st ++ [(v, p + 1, 0)], s, HM.out.part (by omega) hke, by rw [ssum_append, ssum_one], by simpa using q6, by simpa using q7, by simpa using q8, q9, qb, qk, qa, qc⟩)
          have h6b := (H6.out.far (p := ⟨g7, sl, none⟩) (own_apart H7.out.2 H6.out.2 (by decide) g7 rfl) (.int .i64 ((p : Int) + 1)))
          have h9b := (H9.out.far (p := ⟨g7, sl, none⟩) (own_apart H7.out.2 H9.out.2 (by decide) g7 rfl) (.int .i64 ((p : Int) + 1)))
          have HU8b := Lib.hid u8
          obtain ⟨gz, cz, ez, _, _, _, lo8b, _, x8b, f8b, _, U8b⟩ := u8.top
          simp only [List.length_map, HSL.out] at ez x8b f8b U8b
          cases ez
          have U8b := U8b 0
          have HNX : Hid (M8 w n F e w.heap.size (wsum F s.d n + (ssum F st + rem F v (p + 1) 0)) (.slice (some ⟨g6, 0, none⟩) (sl + 1) c6) (.slice (some ⟨g7, 0, none⟩) (sl + 1) c7) (.slice (some ⟨g8, 0, none⟩) (sl + 1) c8) u9 ((wr.setCell ⟨g7, sl, none⟩ (.int .i64 ((p : Int) + 1))).setCell ⟨g8, sl, none⟩ (.int .i64 0))) := Lib.hid (HNXf.out _ _ _ _
              (h6b.far (p := ⟨g8, sl, none⟩) (own_apart H8.out.2 H6.out.2 (by decide) g8 rfl) _)
              (u7.far (p := ⟨g8, sl, none⟩) (by simp [Value.ownBlock]; exact fun e => g78 e.symm) _)
              U8b
              (h9b.far (p := ⟨g8, sl, none⟩) (own_apart H8.out.2 H9.out.2 (by decide) g8 rfl) _)
              (HBa.out.far (p := ⟨g8, sl, none⟩) (fun e => HBs.out.notOwned H8.out.2 (by decide) (by rw [e]; rfl)) _)
              (HKa.out.setCell (p := ⟨g8, sl, none⟩) lo8 _) hs1 hs2)
          clear HNXf h6b h9b u7 u8 U8b
          go_wp2_with fail
          go_roundw
          case rel => exact ⟨_, HNX.out⟩
          case measure => exact Nat.lt_of_le_of_lt (least_le HNX.out) (Nat.lt_of_lt_of_eq hlt HLE.out.symm)
        · have hki : ¬ (plen F v p : Int) ≤ (k : Int) := by omega
          have hki2 : (k : Int) < (plen F v p : Int) := by omega
          have hkl : k < (imps F v p).length := by rw [hpl]; omega
          obtain ⟨b3, off3, e3, hb3, hc3⟩ := hD (by omega)
          subst e3
          obtain ⟨q1, q2⟩ := hc3 k hkl
          have u8 := HU8.out (k + 1)
          rw [show ((k + 1 : Nat) : Int) = (k : Int) + 1 by omega] at u8
          have hok := HFit.out.ok v hv p (by omega) (imps F v p)[k] (List.getElem_mem hkl)
          have hskip := fun h => HM.out.skip (by omega) hkl h
          have hpush := fun a b c => HM.out.push (by omega) hkl a b c
          have hx32 := h32 _ (List.getElem_mem hkl)
          have hrem := rem_imp (F := F) (v := v) (p := p) (k := k) (by omega) (by omega)
          have ho := HM.out.len
          simp only [List.length_append, List.length_singleton, HSL.out] at ho
          generalize (imps F v p)[k] = x at *
          obtain ⟨x1, x2⟩ := x
          simp only at q1 q2 hok hskip hpush hx32
          have HOK := Lib.hid hok
          have HSK := Lib.hid hskip
          have HPU := Lib.hid hpush
          have HLM : Hid (wsum F s.d n + (ssum F st + rem F v p (k + 1)) < L) := Lib.hid (by have := HL2.out; omega)
          have HREM := Lib.hid hrem
          have K1 := Lib.hid (HK.out.setCell (p := ⟨g8, sl, none⟩) lo8 (.int .i64 ((k : Int) + 1)))
          have S6 := Lib.hid (H6.out.far (p := ⟨g8, sl, none⟩) (own_apart H8.out.2 H6.out.2 (by decide) g8 rfl) (.int .i64 ((k : Int) + 1)))
          have S7 := Lib.hid (H7.out.far (p := ⟨g8, sl, none⟩) (by simp [Value.ownBlock]; exact fun e => g78 e.symm) (.int .i64 ((k : Int) + 1)))
          have S8 := Lib.hid u8
          have S9 := Lib.hid (H9.out.far (p := ⟨g8, sl, none⟩) (own_apart H8.out.2 H9.out.2 (by decide) g8 rfl) (.int .i64 ((k : Int) + 1)))
          have SB := Lib.hid (HBs.out.far (p := ⟨g8, sl, none⟩) (fun e => HBs.out.notOwned H8.out.2 (by decide) (by rw [e]; rfl)) (.int .i64 ((k : Int) + 1)))
          clear hok hskip hpush hc3 u8 hrem hD HU7 HU8 HP6 HP7 HP8
          go_upto_region 22 with fail
          clear H6 H7 H8 H9 HBs HK d0 d3 x6 x7 x8 f6 f7 f8
          generalize wr.setCell ⟨g8, sl, none⟩ (.int .i64 ((k : Int) + 1)) = W1 at *
          have r0 := K1.out.cell c0
          have r3 := K1.out.cell c3
          have r1 := K1.out.cell q1
          have r2 := K1.out.cell q2
          go_upto_region 23 with fail
          have B2 : Hid (Blk (W1.alloc (.cells #[.bool x1, .int .u32 (x2 : Int)] 97)) W1.heap.size 97 [.bool x1, .int .u32 (x2 : Int)]) := Lib.hid (Blk.new W1 97 _)
          have kk2 := (Kept.refl W1).alloc (.cells #[.bool x1, .int .u32 (x2 : Int)] 97)
          have K2 := Lib.hid (K1.out.trans kk2)
          have T6 := Lib.hid (S6.out.kept kk2)
          have T7 := Lib.hid (S7.out.kept kk2)
          have T8 := Lib.hid (S8.out.kept kk2)
          have T9 := Lib.hid (S9.out.kept kk2)
          have TB := Lib.hid (SB.out.kept kk2)
          clear r0 r1 r2 r3 S6 S7 S8 S9 SB K1 kk2
          generalize W1.alloc (.cells #[.bool x1, .int .u32 (x2 : Int)] 97) = W2 at *
          generalize W1.heap.size = bx at *
          have HNX : Hid ((x1 = true → s.d x2 = true) → M8 w n F e w.heap.size (wsum F s.d n + (ssum F st + rem F v p (k + 1))) (.slice (some ⟨g6, 0, none⟩) (sl + 1) c6) (.slice (some ⟨g7, 0, none⟩) (sl + 1) c7) (.slice (some ⟨g8, 0, none⟩) (sl + 1) c8) u9 W2) := Lib.hid (fun hs => ⟨st ++ [(v, p, k + 1)], s, HSK.out hs, by rw [ssum_append, ssum_one], by simpa using T6.out, by simpa using T7.out, by simpa using T8.out, T9.out, TB.out, K2.out, hs1, hs2⟩)
          have z0 : W2.cell? ⟨bx, 0, none⟩ = some (.bool x1) := B2.out.cell 0
          have z1 : W2.cell? ⟨bx, 1, none⟩ = some (.int .u32 (x2 : Int)) := B2.out.cell 1
          cases x1
          · have HNY := Lib.hid (HNX.out (fun h => by cases h))
            clear HNX
            go_wp2_with fail
            go_roundw
            case rel => exact ⟨_, HNY.out⟩
            case measure => exact Nat.lt_of_le_of_lt (least_le HNY.out) (Nat.lt_of_lt_of_eq HLM.out HLE.out.symm)
          · have hxn : x2 < n := HOK.out rfl
            have hxi : (x2 : Int) < (n : Int) := by omega
            have y1 := TB.out.cell hxn
            have y2 := TB.out.free x2
            cases hd : s.d x2
            · rw [hd] at y1
              have HD := Lib.hid hd
              clear HNX hd HSK
              have hwm := wsum_mark (F := F) (d := s.d) hxn HD.out
              have hlt : wsum F (s.mark x2).d n + ssum F (st ++ [(v, p, k + 1)] ++ [(x2, 0, 0)]) < L := by
                rw [ssum_append, ssum_append, ssum_one, ssum_one]
                have h1 := HL2.out
                have h2 := HREM.out
                have h3 : wsum F (s.mark x2).d n + rem F x2 0 0 = wsum F s.d n := hwm
                omega
              have HLT := Lib.hid hlt
              have hown9 := T9.out
              have V6 := Lib.hid (T6.out.farBlk TB.out (by decide) x2 (.bool true))
              have V7 := Lib.hid (T7.out.farBlk TB.out (by decide) x2 (.bool true))
              have V8 := Lib.hid (T8.out.farBlk TB.out (by decide) x2 (.bool true))
              have V9 := Lib.hid (T9.out.farBlk TB.out (by decide) x2 (.bool true))
              have VB := Lib.hid (TB.out.set hxn true)
              have B3 := Lib.hid (B2.out.far (p := ⟨w.heap.size, x2, none⟩) (B2.out.apart TB.out (by decide)) (.bool true))
              have K3 := Lib.hid (K2.out.setCell (p := ⟨w.heap.size, x2, none⟩) (Nat.le_refl _) (.bool true))
              clear hwm hlt hown9
              go_upto_region 25 with fail
              clear T6 T7 T8 T9 TB B2 K2 y1 y2 z0 z1
              generalize W2.setCell ⟨w.heap.size, x2, none⟩ (.bool true) = W3 at *
              have z1 : W3.cell? ⟨bx, 1, none⟩ = some (.int .u32 (x2 : Int)) := B3.out.cell 1
              have hs3 := K3.out.size
              have hl6 : (st.map (·.1) ++ [v]).length = sl + 1 := by simp [HSL.out]
              have hl7 : (st.map (·.2.1) ++ [p]).length = sl + 1 := by simp [HSL.out]
              have hl8 : (st.map (·.2.2) ++ [k + 1]).length = sl + 1 := by simp [HSL.out]
              have o6 := V6.out.2
              rw [hl6] at o6
              go_upto_region 26 with (at_builtin; refine wpList_append_own_at (P := Try.prog) (w := _) rfl _ _ 27 rfl w.heap.size 23 i0 (.int .u32 0) 1 4 Try.underlying27 hi hz0 hz1 hz2 rfl (by decide) _ _ _ rfl (o6.alloc _) ⟨W3.heap.size, 0, none⟩ 1 1 [.int .u32 (x2 : Int)] rfl rfl (newsOf W3 [.int .u32 (x2 : Int)] 23) (by simp [Value.oneCell']) (by unfold maxLen; omega) (by omega) (by simp; omega) ?_; intro v6 W4 hown6 hg6 _ hat6)
              have hp6 := push1 (u := x2) (e := fun v : Nat => .int .u32 (v : Int)) K3.out V6.out (by rw [hl6]; exact hown6) hg6 hat6
              have HP6 := Lib.hid hp6
              have s67 := own_apart V6.out.2 V7.out.2 (by decide)
              have s68 := own_apart V6.out.2 V8.out.2 (by decide)
              have X7 := Lib.hid (hp6.2.2.wk V7.out s67)
              have X8 := Lib.hid (hp6.2.2.wk V8.out s68)
              have X9 := Lib.hid (hp6.2.2.wk V9.out hs1)
              have Q69 := Lib.hid (hp6.2.2.sep V9.out hs1)
              have XB := Lib.hid (hp6.2.2.blk VB.out (VB.out.notOwned V6.out.2 (by decide)))
              have hs4 := hp6.2.1.size
              clear hp6 s67 s68 hown6 hg6 hat6 o6 z1
              have o7 := X7.out.2
              rw [hl7] at o7
              go_upto_region 27 with (at_builtin; refine wpList_append_own_at (P := Try.prog) (w := _) rfl _ _ 99 rfl w.heap.size 3 i3 (.int .i64 0) 1 8 Try.underlying99 hj hy0 hy1 hy2 rfl (by decide) _ _ _ rfl (o7.alloc _) ⟨W4.heap.size, 0, none⟩ 1 1 [.int .i64 0] rfl rfl (newsOf W4 [.int .i64 0] 3) (by simp [Value.oneCell']) (by unfold maxLen; omega) (by omega) (by simp; omega) ?_; intro v7 W5 hown7 hg7 _ hat7)
              have hp7 := push1 (u := 0) (e := fun v : Nat => .int .i64 (v : Int)) HP6.out.2.1 X7.out (by rw [hl7]; exact hown7) hg7 hat7
              have HP7 := Lib.hid hp7
              have s76 := own_apart X7.out.2 HP6.out.1.2 (by decide)
              have s79 := own_apart X7.out.2 X9.out.2 (by decide)
              have Y6 := Lib.hid (hp7.2.2.wk HP6.out.1 s76)
              have Y8 := Lib.hid (hp7.2.2.wk X8.out hs2)
              have Y9 := Lib.hid (hp7.2.2.wk X9.out s79)
              have Q78 := Lib.hid (hp7.2.2.sep X8.out hs2)
              have YB := Lib.hid (hp7.2.2.blk XB.out (XB.out.notOwned X7.out.2 (by decide)))
              have hs5 := hp7.2.1.size
              clear hp7 s76 s79 hown7 hg7 hat7 o7
              have o8 := Y8.out.2
              rw [hl8] at o8
              go_wp2_with (at_builtin; refine wpList_append_own_at (P := Try.prog) (w := _) rfl _ _ 99 rfl w.heap.size 3 i3 (.int .i64 0) 1 8 Try.underlying99 hj hy0 hy1 hy2 rfl (by decide) _ _ _ rfl (o8.alloc _) ⟨W5.heap.size, 0, none⟩ 1 1 [.int .i64 0] rfl rfl (newsOf W5 [.int .i64 0] 3) (by simp [Value.oneCell']) (by unfold maxLen; omega) (by omega) (by simp; omega) ?_; intro v8 W6 hown8 hg8 _ hat8)
              have hp8 := push1 (u := 0) (e := fun v : Nat => .int .i64 (v : Int)) HP7.out.2.1 Y8.out (by rw [hl8]; exact hown8) hg8 hat8
              have s86 := own_apart Y8.out.2 Y6.out.2 (by decide)
              have s89 := own_apart Y8.out.2 Y9.out.2 (by decide)
              have s87 : ∀ k, Value.ownBlock (.slice (some ⟨g8, 0, none⟩) (sl + 1) c8) = some k → v7.ownBlock ≠ some k := fun k a b => Q78.out k b a
              have HNX : Hid (M8 w n F e w.heap.size (wsum F (s.mark x2).d n + ssum F (st ++ [(v, p, k + 1)] ++ [(x2, 0, 0)])) v6 v7 v8 u9 W6) := Lib.hid ⟨_, _, HPU.out rfl hxn HD.out, rfl,
                by have q := hp8.2.2.wk Y6.out s86; simpa using q, by have q := hp8.2.2.wk HP7.out.1 s87; simpa using q, by have q := hp8.1; simpa using q, hp8.2.2.wk Y9.out s89, (hp8.2.2.blk YB.out (YB.out.notOwned Y8.out.2 (by decide)) : Bools _ _ _ _), hp8.2.1, Q69.out, fun g a b => hp8.2.2.sep HP7.out.1 s87 g b a⟩
              clear hp8 s86 s89 s87 hown8 hg8 hat8 o8
              go_wp2_with fail
              go_roundw
              case rel => exact ⟨_, HNX.out⟩
              case measure => exact Nat.lt_of_le_of_lt (least_le HNX.out) (Nat.lt_of_lt_of_eq HLT.out HLE.out.symm)
            · rw [hd] at y1
              have HNY := Lib.hid (HNX.out (fun _ => hd))
              clear HNX hd
              go_wp2_with fail
              go_roundw
              case rel => exact ⟨_, HNY.out⟩
              case measure => exact Nat.lt_of_le_of_lt (least_le HNY.out) (Nat.lt_of_lt_of_eq HLM.out HLE.out.symm)
end Go.Proofs.Ytkogmgonceneeaa.css
