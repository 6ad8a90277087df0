/-
  zzModel over this seat's program: the entries that the rows spell, sorted by the law's own order, without doubles.
  Conditions: at most 65536 entries, every source within the table.
-/
import Derived.Test.YtbnkhpbgibgahaaFt
import Derived.BigQuiet
namespace Go.Proofs.Ytbnkhpbgibgahaa.es
open Go.ChangeShapes Go.WideShapes Go.ChangeAt Go.RowKit
open kit ms fl rf

def zE : En := ⟨0, 0, 0⟩
def fill (L : List En) (k n : Nat) : List En := L.take k ++ List.replicate (n - k) zE
theorem fill_length {L : List En} {k n : Nat} (hl : L.length = n) (hk : k ≤ n) : (fill L k n).length = n := by simp [fill]; omega
theorem fill_set {L : List En} {k n : Nat} {e : En} (hl : L.length = n) (hk : k < n) (he : L[k]? = some e) : (fill L k n).set k e = fill L (k + 1) n := by
  obtain ⟨h1, h2⟩ := List.getElem?_eq_some_iff.1 he
  unfold fill
  have e1 : n - k = (n - (k + 1)) + 1 := by omega
  have hlk : (L.take k).length = k := by simp; omega
  rw [e1, List.replicate_succ, List.set_append_right _ _ (by omega), hlk, Nat.sub_self, List.set_cons_zero, List.take_succ_eq_append_getElem h1, h2]
  simp
theorem fill_done {L : List En} {n : Nat} (hl : L.length = n) : fill L n n = L := by
  unfold fill
  rw [Nat.sub_self, List.replicate_zero, List.append_nil, List.take_of_length_le (by omega)]

def M1 (w : World) (q n : Nat) (L : List En) (t : Value) (W : World) : Prop := ∃ k : Nat, k ≤ n ∧ t = .int .i64 (k : Int) ∧ Blk W q 31 (flat (fill L k n)) ∧ Kept w W
def M2 (w : World) (q r n : Nat) (Y : List En) (t u : Value) (W : World) : Prop :=
  ∃ k : Nat, k ≤ n ∧ u = .int .i64 (k : Int) ∧ t = .slice (some ⟨r, 0, none⟩) (dd (Y.take k)).length n ∧ (dd (Y.take k)).length ≤ k ∧ W.ownsRow r 31 3 (.slice (some ⟨r, 0, none⟩) (dd (Y.take k)).length n) (dd (Y.take k)).length (flat (dd (Y.take k))) ∧ Blk W q 31 (flat Y) ∧ Kept w W
/-- what the model is -/
def Modelled (w : World) (L : List En) (e : Ending) (w' : World) : Prop :=
  ∃ (r c : Nat) (sp : List Value) (Y : List En), e = .returned (.slice (some ⟨r, 0, none⟩) (dd Y).length c) ∧ Y.Perm L ∧ Y.Pairwise (fun a c => ele a c = true) ∧ Blk w' r 31 (flat (dd Y) ++ sp) ∧ (dd Y).length ≤ L.length ∧ Kept w w'
theorem kept_turn {w W W2 : World} {q : Nat} (hk : Kept w W) (ht : Turn W W2 (fun k => k = q)) (hq : w.heap.size ≤ q) : Kept w W2 :=
  ⟨ht.os.trans hk.os, ht.tape.trans hk.tape, ht.output.trans hk.output, Nat.le_trans hk.size ht.size, fun k hl => (ht.block k (Nat.lt_of_lt_of_le hl hk.size) (by omega)).trans (hk.block k hl)⟩
theorem dd_le (Y : List En) : ∀ k, (dd (Y.take k)).length ≤ k := by
  intro k
  induction k with
  | zero => simp [dd]
  | succ k ih =>
    by_cases hk : k < Y.length
    · rw [ms.take_succ hk]
      unfold dstep
      split
      · split
        · omega
        · rw [List.length_append, List.length_singleton]; omega
      · rw [List.length_append, List.length_singleton]; omega
    · rw [List.take_of_length_le (by omega)] at ih ⊢
      omega
theorem own_blk31 {w : World} {base q n c : Nat} {xs : List Value} (h : w.ownsRow base 31 3 (.slice (some ⟨q, 0, none⟩) n c) n xs) : ∃ sp, Blk w q 31 (xs ++ sp) := by
  rcases h.2 with ⟨e1, _⟩ | ⟨g, cap, cur, e1, _, hh, _, _, _, ht⟩
  · injection e1 with e1; cases e1
  · injection e1 with e1
    have e3 : q = g := by injection e1 with e1; injection e1
    subst e3
    refine ⟨cur.toList.drop (n * 3), ?_⟩
    rw [Blk, ← ht, List.take_append_drop]
    exact hh
theorem info31 : ∃ i, Try.prog.info? 31 = some i ∧ i.size = 3 := by
  have h : (Try.prog.info? 31).map (·.size) = some 3 := by kernel_rfl
  obtain ⟨i, h1, h2⟩ := Option.map_eq_some_iff.1 h
  exact ⟨i, h1, h2⟩
theorem news31 (w : World) (a b c : Value) : ∀ j u, [a, b, c][j]? = some u → (w.alloc (.cells #[a, b, c] 31)).cell? ((⟨w.heap.size, 0, none⟩ : Addr).add j) = some u := by
  intro j u h
  have hb := (Blk.new w 31 [a, b, c]).cell j
  rw [h] at hb
  have e : (⟨w.heap.size, 0, none⟩ : Addr).add j = ⟨w.heap.size, j, none⟩ := by
    unfold Addr.add
    by_cases hj : j = 0 <;> simp [hj]
  rw [e]
  simpa using hb

set_option maxRecDepth 100000 in
set_option maxHeartbeats 8000000 in
theorem model (w : World) (A B C : Option Addr) (lS lP lQ cS cP cQ n : Nat) (S P Q : List Int) (h : Inp w A B C lS lP lQ cS cP cQ S P Q n) :
    Calls Try.prog 10 #[.slice A lS cS, .slice B lP cP, .slice C lQ cQ, .int .i64 (n : Int)] w (Modelled w (ents S P Q n)) := by
  have hn := h.n6
  have hnP := h.nP
  have hnQ := h.nQ
  have HI := Lib.hid h
  obtain ⟨L, hL⟩ : ∃ L, L = ents S P Q n := ⟨_, rfl⟩
  have HLL := Lib.hid hL
  have HLN : Hid (L.length = n) := Lib.hid (by rw [hL]; exact ents_length _ _ _ _)
  rw [← hL]
  clear h hL
  obtain ⟨q, hq⟩ : ∃ q, q = w.heap.size := ⟨_, rfl⟩
  have hmk := makeE n hn w
  have H0 : Hid (M1 w q n L (.int .i64 0) (w.alloc (.cells (flat (List.replicate n ⟨0, 0, 0⟩)).toArray 31))) := Lib.hid ⟨0, Nat.zero_le _, rfl, by
    have : fill L 0 n = List.replicate n ⟨0, 0, 0⟩ := by simp [fill, zE]
    rw [this, hq]
    exact Blk.new w 31 _, (Kept.refl w).alloc _⟩
  rw [← hq] at hmk
  have HQ := Lib.hid hq
  clear hq
  generalize w.alloc (.cells (flat (List.replicate n ⟨0, 0, 0⟩)).toArray 31) = wa at *
  obtain ⟨cur, hcur, hmk2⟩ := make0 (T := 27) (E := 31) (z := .agg #[.int .u32 0, .int .u32 0, .int .u32 0]) (size := 3) (bytes := 12) Try.underlying27 (by kernel_rfl) n (n : Int) rfl (by omega) (by unfold maxLen; omega)
  have HMK2 := Lib.hid hmk2
  have HCUR := Lib.hid hcur
  clear hmk2 hcur
  go_enter Try.func10, Try.ntmps10
  go_wp2_with fail
  clear hmk
  go_loopw [10] (fun t W => M1 w q n L t W) (fun t _ => n - (intOf t).toNat)
  case atStart => exact H0.out
  case round =>
    obtain ⟨k, hk, rfl, hb, hkp⟩ := hrel
    have HB := Lib.hid hb
    have HK := Lib.hid hkp
    clear hb hkp H0
    by_cases hlt : k < n
    · obtain ⟨bS, oS, bP, oP, bQ, oQ, p, rfl, rfl, rfl, ep, hp, c1, c2, c3⟩ := (HI.out.kept HK.out).at_ hlt
      have he : L[k]? = some ⟨S.getD p 0, (p : Int), Q.getD k 0⟩ := by
        rw [HLL.out, ents_at S P Q hlt]
        unfold ent3
        rw [ep, Int.toNat_natCast]
      have hfl : (fill L k n).length = n := fill_length HLN.out hk
      have hset := fill_set HLN.out hlt he
      have hl3 : (flat (fill L k n)).length = 3 * n := by rw [flat_length, hfl]
      have HBS : Hid (Blk (((wr.drew.setCell ⟨q, k * 3, none⟩ (.int .u32 (S.getD p 0))).setCell ⟨q, k * 3 + 1, none⟩ (.int .u32 (p : Int))).setCell ⟨q, k * 3 + 2, none⟩ (.int .u32 (Q.getD k 0))) q 31 (flat (fill L (k + 1) n))) := Lib.hid (by
        rw [← hset, flat_set _ _ _ (by rw [hfl]; exact hlt), show 3 * k = k * 3 by omega]
        exact ((HB.out.drew.set (k * 3) _).set (k * 3 + 1) _).set (k * 3 + 2) _)
      obtain ⟨v0, s0⟩ : ∃ v, wr.drew.cell? ⟨q, k * 3, none⟩ = some v := ⟨_, HB.out.drew.cellD (i := k * 3) (by omega)⟩
      obtain ⟨v1, s1⟩ : ∃ v, wr.drew.cell? ⟨q, k * 3 + 1, none⟩ = some v := ⟨_, HB.out.drew.cellD (i := k * 3 + 1) (by omega)⟩
      obtain ⟨v2, s2⟩ : ∃ v, wr.drew.cell? ⟨q, k * 3 + 2, none⟩ = some v := ⟨_, HB.out.drew.cellD (i := k * 3 + 2) (by omega)⟩
      have f0 := HB.out.drew.free (k * 3)
      have f1 := HB.out.drew.free (k * 3 + 1)
      have f2 := HB.out.drew.free (k * 3 + 2)
      have i1 : (k : Int) < (n : Int) := by omega
      have i2 : (k : Int) < (lP : Int) := by omega
      have i3 : (k : Int) < (lQ : Int) := by omega
      have i4 : (p : Int) < (lS : Int) := by omega
      have i5 : (0 : Int) ≤ (k : Int) := by omega
      have i6 : (0 : Int) ≤ (p : Int) := by omega
      have HK2 := Lib.hid HK.out.drew
      clear he hfl hset hl3 ep HB
      generalize S.getD p 0 = xs at *
      generalize Q.getD k 0 = xn at *
      go_upto_region 5 with fail
      go_still_tail 19, (by kernel_rfl)
      change wpList _ _ _ _ _ wr.drew
      clear c1 c2 c3
      generalize wr.drew = w2 at *
      go_wp2_with fail
      have HN : Hid (M1 w q n L (.int .i64 ((k : Int) + 1)) (((w2.setCell ⟨q, k * 3, none⟩ (.int .u32 xs)).setCell ⟨q, k * 3 + 1, none⟩ (.int .u32 (p : Int))).setCell ⟨q, k * 3 + 2, none⟩ (.int .u32 xn))) := Lib.hid ⟨k + 1, by omega, by go_num, HBS.out, by
        have h := HQ.out
        exact ((HK2.out.setCell (p := ⟨q, k * 3, none⟩) (by show w.heap.size ≤ q; omega) _).setCell (p := ⟨q, k * 3 + 1, none⟩) (by show w.heap.size ≤ q; omega) _).setCell (p := ⟨q, k * 3 + 2, none⟩) (by show w.heap.size ≤ q; omega) _⟩
      clear HBS HK2 s0 s1 s2 f0 f1 f2
      go_roundw
      case rel => first | exact HN.out | ((repeat apply Exists.intro); exact ⟨HN.out, rfl⟩)
      case measure => simp [intOf] <;> omega
    · obtain rfl : k = n := by omega
      have hb2 : Blk wr q 31 (flat L) := by have := HB.out; rwa [fill_done HLN.out] at this
      have HSO := Lib.hid (sortE wr q k k L hb2 HLN.out hn)
      clear hb2 HB
      go_upto_region 7 with (go_at_call 15; refine HSO.out.mono ?_; rintro e w3 ⟨rfl, Y, y1, y2, y3, y4⟩; have HY1 := Lib.hid y1; have HY2 := Lib.hid y2; have HY3 := Lib.hid y3; have HK3 := Lib.hid (kept_turn HK.out y4 (by have := HQ.out; omega)); clear y1 y2 y3 y4)
      obtain ⟨r, hr⟩ : ∃ r, r = w3.heap.size := ⟨_, rfl⟩
      have hmk3 := HMK2.out w3
      rw [← hr] at hmk3
      have hY0 : dd (Y.take 0) = [] := by simp [dd]
      have hYl : Y.length = k := HY1.out.length_eq.trans HLN.out
      have HYL := Lib.hid hYl
      have H2 : Hid (M2 w q r k Y (.slice (some ⟨r, 0, none⟩) 0 k) (.int .i64 0) (w3.alloc (.cells cur 31))) := Lib.hid ⟨0, Nat.zero_le _, rfl, by rw [hY0]; rfl, dd_le Y 0, by
        rw [hY0]
        exact ⟨rfl, Or.inr ⟨r, k, cur, rfl, Nat.le_refl _, by rw [hr]; exact heap_alloc_new w3 _, by simp, by unfold maxLen; omega, HCUR.out, by simp [flat]⟩⟩, HY3.out.alloc _, HK3.out.alloc _⟩
      have HR0 : Hid (q < r ∧ w.heap.size ≤ r) := Lib.hid (by have := HY3.out.lt; have := HK3.out.size; omega)
      clear hY0 hYl hr HMK2 HCUR HK
      generalize w3.alloc (.cells cur 31) = w4 at *
      obtain ⟨i31, hi31, hz31⟩ := info31
      go_wp2_with fail
      clear hmk3
      go_loopw [11, 12] (fun t u W => M2 w q r k Y t u W) (fun _ u _ => k - (intOf u).toNat)
      case atStart => exact H2.out
      case round =>
        obtain ⟨m, hm, rfl, rfl, hdl, ho, hby, hk4⟩ := hrel
        have HO := Lib.hid ho
        have HBY := Lib.hid hby
        have HK4 := Lib.hid hk4
        clear ho hby hk4 H2
        by_cases hlt2 : m < k
        · have hmY : m < Y.length := by rw [HYL.out]; exact hlt2
          obtain ⟨y, hy⟩ : ∃ y, Y[m]? = some y := ⟨Y[m], List.getElem?_eq_getElem hmY⟩
          have HSU : Hid (dd (Y.take (m + 1)) = dstep (dd (Y.take m)) y) := Lib.hid (by
            rw [ms.take_succ hmY]
            congr 1
            exact Option.some.inj ((List.getElem?_eq_getElem hmY).symm.trans hy))
          have y0 : wr.cell? ⟨q, m * 3, none⟩ = some (.int .u32 y.s) := by rw [HBY.out.cell, show m * 3 = 3 * m + 0 by omega, flat_at hy 0 (by omega)]; rfl
          have y1 : wr.cell? ⟨q, m * 3 + 1, none⟩ = some (.int .u32 y.src) := by rw [HBY.out.cell, show m * 3 + 1 = 3 * m + 1 by omega, flat_at hy 1 (by omega)]; rfl
          have y2 : wr.cell? ⟨q, m * 3 + 2, none⟩ = some (.int .u32 y.inn) := by rw [HBY.out.cell, show m * 3 + 2 = 3 * m + 2 by omega, flat_at hy 2 (by omega)]; rfl
          obtain ⟨ys, yr, yn⟩ := y
          dsimp only at y0 y1 y2
          have hy0 := hy
          clear hy hmY
          obtain ⟨V, hV⟩ : ∃ V, V = dd (Y.take m) := ⟨_, rfl⟩
          rw [← hV] at HSU HO hdl ⊢
          have i1 : (m : Int) < (k : Int) := by omega
          have i2 : (0 : Int) ≤ (m : Int) := by omega
          have HYM := Lib.hid hy0
          clear hy0
          rcases hgl : V.getLast? with _ | l
          · have hV0 : V = [] := List.getLast?_eq_none_iff.1 hgl
            have HDS : Hid (dstep V ⟨ys, yr, yn⟩ = V ++ [⟨ys, yr, yn⟩]) := Lib.hid (by unfold dstep; rw [hgl])
            have HVV := Lib.hid hV
            clear hV hgl
            subst hV0
            simp only [List.length_nil] at *
            go_upto_region 11 with fail
            go_quiet (fail)
            have HS1 : Hid (dd (Y.take (m + 1)) = [] ++ [⟨ys, yr, yn⟩]) := Lib.hid (by rw [HSU.out]; exact HDS.out)
            clear HSU HDS
            have HO5 := Lib.hid (own_kept HO.out ((Kept.refl wr).drewN nq))
            have HB5 := Lib.hid (HBY.out.kept ((Kept.refl wr).drewN nq))
            have HK5 := Lib.hid (HK4.out.trans ((Kept.refl wr).drewN nq))
            clear HO HBY HK4
            generalize wr.drewN nq = w5 at *
            have y0 : w5.cell? ⟨q, m * 3, none⟩ = some (.int .u32 ys) := by rw [HB5.out.cell, show m * 3 = 3 * m + 0 by omega, flat_at HYM.out 0 (by omega)]; rfl
            have y1 : w5.cell? ⟨q, m * 3 + 1, none⟩ = some (.int .u32 yr) := by rw [HB5.out.cell, show m * 3 + 1 = 3 * m + 1 by omega, flat_at HYM.out 1 (by omega)]; rfl
            have y2 : w5.cell? ⟨q, m * 3 + 2, none⟩ = some (.int .u32 yn) := by rw [HB5.out.cell, show m * 3 + 2 = 3 * m + 2 by omega, flat_at HYM.out 2 (by omega)]; rfl
            have hfit : 0 + 1 ≤ k := by omega
            go_wp2_with (at_builtin; refine wpList_append_fits _ rfl _ _ 27 rfl r 31 i31 3 Try.underlying27 hi31 hz31 r (0) k (flat ([])) rfl (HO5.out.alloc _) ⟨w5.heap.size, 0, none⟩ 1 1 [.int .u32 ys, .int .u32 yr, .int .u32 yn] rfl rfl (news31 w5 _ _ _) (so.one3 _ _ _) hfit ?_; intro w6 ho6 hg6; have HO6 := Lib.hid ho6; have HG6 := Lib.hid hg6; clear ho6 hg6)
            have hl6 : (dd (Y.take (m + 1))).length = 0 + 1 := by rw [HS1.out]; simp; try omega
            have HN : Hid (M2 w q r k Y (.slice (some ⟨r, 0, none⟩) (0 + 1) k) (.int .i64 ((m : Int) + 1)) w6) := Lib.hid ⟨m + 1, by omega, by go_num, by rw [hl6], dd_le Y (m + 1), by
              rw [hl6, HS1.out]
              have e9 : flat ([] ++ [(⟨ys, yr, yn⟩ : En)]) = flat ([]) ++ [.int .u32 ys, .int .u32 yr, .int .u32 yn] := by simp [flat, ent]
              rw [e9]
              exact HO6.out, (HB5.out.alloc _).grown HG6.out (fun e => by have := HR0.out; injection e; omega), so.keptGrown (HK5.out.alloc _) HG6.out (by have := HR0.out; omega)⟩
            clear hl6 HO6 HG6 HB5 HK5 HO5 HS1 y0 y1 y2
            go_roundw
            case rel => first | exact HN.out | ((repeat apply Exists.intro); exact ⟨HN.out, rfl⟩)
            case measure => simp [intOf] <;> omega
          · obtain ⟨V', rfl⟩ : ∃ V', V = V' ++ [l] := ⟨V.dropLast, by
              have hne : V ≠ [] := by intro e; rw [e] at hgl; cases hgl
              rw [List.getLast?_eq_some_getLast hne] at hgl
              exact (Option.some.inj hgl) ▸ (List.dropLast_concat_getLast hne).symm⟩
            have hln : (V' ++ [l]).length = V'.length + 1 := by simp
            have hat : (V' ++ [l])[V'.length]? = some l := by simp
            obtain ⟨spr, hbr⟩ := own_blk31 HO.out
            have hfa := fun t ht => (flat_at hat t ht)
            have z1 : wr.cell? ⟨r, V'.length * 3 + 1, none⟩ = some (.int .u32 l.src) := by
              rw [hbr.cell, List.getElem?_append_left (by rw [flat_length, hln]; omega), show V'.length * 3 + 1 = 3 * V'.length + 1 by omega, hfa 1 (by omega)]; rfl
            have z2 : wr.cell? ⟨r, V'.length * 3 + 2, none⟩ = some (.int .u32 l.inn) := by
              rw [hbr.cell, List.getElem?_append_left (by rw [flat_length, hln]; omega), show V'.length * 3 + 2 = 3 * V'.length + 2 by omega, hfa 2 (by omega)]; rfl
            have HDD : Hid (dstep (V' ++ [l]) ⟨ys, yr, yn⟩ = if l.src = yr ∧ l.inn = yn then V' ++ [l] else V' ++ [l] ++ [⟨ys, yr, yn⟩]) := Lib.hid (by unfold dstep; rw [hgl])
            have HVV := Lib.hid hV
            clear hV hgl hat hbr hfa
            rw [hln] at HO hdl ⊢
            obtain ⟨ls, lr, ln⟩ := l
            dsimp only at z1 z2 HDD
            obtain ⟨V2, hV2⟩ : ∃ V2, V' ++ [(⟨ls, lr, ln⟩ : En)] = V2 := ⟨_, rfl⟩
            obtain ⟨N, hN⟩ : ∃ N, V'.length = N := ⟨_, rfl⟩
            rw [hV2] at HSU HO HDD HVV hln
            rw [hN] at z1 z2 hdl HO hln ⊢
            have HLN2 := Lib.hid hln
            clear hV2 hN hln
            have n0 : (0 : Int) < (N : Int) + 1 := by omega
            have n1 : (N : Int) < (N : Int) + 1 := by omega
            have n2 : (0 : Int) ≤ (N : Int) := by omega
            by_cases es : lr = yr
            · by_cases en : ln = yn
              · have HS1 : Hid (dd (Y.take (m + 1)) = V2) := Lib.hid (by rw [HSU.out, HDD.out, if_pos ⟨es, en⟩])
                clear HSU HDD
                subst es en
                have HN : Hid (∀ nq, M2 w q r k Y (.slice (some ⟨r, 0, none⟩) (N + 1) k) (.int .i64 ((m : Int) + 1)) (wr.drewN nq)) := Lib.hid (fun nq => by
                  have kk := (Kept.refl wr).drewN nq
                  have hl6 : (dd (Y.take (m + 1))).length = N + 1 := by rw [HS1.out]; exact HLN2.out
                  refine ⟨m + 1, by omega, by go_num, by rw [hl6], dd_le Y (m + 1), ?_, HBY.out.kept kk, HK4.out.trans kk⟩
                  rw [hl6, HS1.out]
                  exact own_kept HO.out kk)
                clear HS1 HO HBY HK4
                go_upto_region 11 with fail
                go_quiet (fail)
                go_wp2_with fail
                go_roundw
                case rel => first | exact HN.out _ | ((repeat apply Exists.intro); exact ⟨HN.out _, rfl⟩)
                case measure => simp [intOf] <;> omega
              · have HDS : Hid (dstep V2 ⟨ys, yr, yn⟩ = V2 ++ [⟨ys, yr, yn⟩]) := Lib.hid (by rw [HDD.out, if_neg (fun e => en e.2)])
                have en2 : (ln == yn) = false := by simpa using en
                clear HDD
                subst es
                go_upto_region 11 with fail
                go_quiet (fail)
                have HS1 : Hid (dd (Y.take (m + 1)) = V2 ++ [⟨ys, lr, yn⟩]) := Lib.hid (by rw [HSU.out]; exact HDS.out)
                clear HSU HDS
                have HO5 := Lib.hid (own_kept HO.out ((Kept.refl wr).drewN nq))
                have HB5 := Lib.hid (HBY.out.kept ((Kept.refl wr).drewN nq))
                have HK5 := Lib.hid (HK4.out.trans ((Kept.refl wr).drewN nq))
                clear HO HBY HK4
                generalize wr.drewN nq = w5 at *
                have y0 : w5.cell? ⟨q, m * 3, none⟩ = some (.int .u32 ys) := by rw [HB5.out.cell, show m * 3 = 3 * m + 0 by omega, flat_at HYM.out 0 (by omega)]; rfl
                have y1 : w5.cell? ⟨q, m * 3 + 1, none⟩ = some (.int .u32 lr) := by rw [HB5.out.cell, show m * 3 + 1 = 3 * m + 1 by omega, flat_at HYM.out 1 (by omega)]; rfl
                have y2 : w5.cell? ⟨q, m * 3 + 2, none⟩ = some (.int .u32 yn) := by rw [HB5.out.cell, show m * 3 + 2 = 3 * m + 2 by omega, flat_at HYM.out 2 (by omega)]; rfl
                have hfit : (N + 1) + 1 ≤ k := by omega
                go_wp2_with (at_builtin; refine wpList_append_fits _ rfl _ _ 27 rfl r 31 i31 3 Try.underlying27 hi31 hz31 r ((N + 1)) k (flat (V2)) rfl (HO5.out.alloc _) ⟨w5.heap.size, 0, none⟩ 1 1 [.int .u32 ys, .int .u32 lr, .int .u32 yn] rfl rfl (news31 w5 _ _ _) (so.one3 _ _ _) hfit ?_; intro w6 ho6 hg6; have HO6 := Lib.hid ho6; have HG6 := Lib.hid hg6; clear ho6 hg6)
                have hl6 : (dd (Y.take (m + 1))).length = (N + 1) + 1 := by rw [HS1.out, List.length_append, HLN2.out]; rfl
                have HN : Hid (M2 w q r k Y (.slice (some ⟨r, 0, none⟩) ((N + 1) + 1) k) (.int .i64 ((m : Int) + 1)) w6) := Lib.hid ⟨m + 1, by omega, by go_num, by rw [hl6], dd_le Y (m + 1), by
                  rw [hl6, HS1.out]
                  have e9 : flat (V2 ++ [(⟨ys, lr, yn⟩ : En)]) = flat (V2) ++ [.int .u32 ys, .int .u32 lr, .int .u32 yn] := by simp [flat, ent]
                  rw [e9]
                  exact HO6.out, (HB5.out.alloc _).grown HG6.out (fun e => by have := HR0.out; injection e; omega), so.keptGrown (HK5.out.alloc _) HG6.out (by have := HR0.out; omega)⟩
                clear hl6 HO6 HG6 HB5 HK5 HO5 HS1 y0 y1 y2
                go_roundw
                case rel => first | exact HN.out | ((repeat apply Exists.intro); exact ⟨HN.out, rfl⟩)
                case measure => simp [intOf] <;> omega
            · have HDS : Hid (dstep V2 ⟨ys, yr, yn⟩ = V2 ++ [⟨ys, yr, yn⟩]) := Lib.hid (by rw [HDD.out, if_neg (fun e => es e.1)])
              have es2 : (lr == yr) = false := by simpa using es
              clear HDD
              go_upto_region 11 with fail
              go_quiet (fail)
              have HS1 : Hid (dd (Y.take (m + 1)) = V2 ++ [⟨ys, yr, yn⟩]) := Lib.hid (by rw [HSU.out]; exact HDS.out)
              clear HSU HDS
              have HO5 := Lib.hid (own_kept HO.out ((Kept.refl wr).drewN nq))
              have HB5 := Lib.hid (HBY.out.kept ((Kept.refl wr).drewN nq))
              have HK5 := Lib.hid (HK4.out.trans ((Kept.refl wr).drewN nq))
              clear HO HBY HK4
              generalize wr.drewN nq = w5 at *
              have y0 : w5.cell? ⟨q, m * 3, none⟩ = some (.int .u32 ys) := by rw [HB5.out.cell, show m * 3 = 3 * m + 0 by omega, flat_at HYM.out 0 (by omega)]; rfl
              have y1 : w5.cell? ⟨q, m * 3 + 1, none⟩ = some (.int .u32 yr) := by rw [HB5.out.cell, show m * 3 + 1 = 3 * m + 1 by omega, flat_at HYM.out 1 (by omega)]; rfl
              have y2 : w5.cell? ⟨q, m * 3 + 2, none⟩ = some (.int .u32 yn) := by rw [HB5.out.cell, show m * 3 + 2 = 3 * m + 2 by omega, flat_at HYM.out 2 (by omega)]; rfl
              have hfit : (N + 1) + 1 ≤ k := by omega
              go_wp2_with (at_builtin; refine wpList_append_fits _ rfl _ _ 27 rfl r 31 i31 3 Try.underlying27 hi31 hz31 r ((N + 1)) k (flat (V2)) rfl (HO5.out.alloc _) ⟨w5.heap.size, 0, none⟩ 1 1 [.int .u32 ys, .int .u32 yr, .int .u32 yn] rfl rfl (news31 w5 _ _ _) (so.one3 _ _ _) hfit ?_; intro w6 ho6 hg6; have HO6 := Lib.hid ho6; have HG6 := Lib.hid hg6; clear ho6 hg6)
              have hl6 : (dd (Y.take (m + 1))).length = (N + 1) + 1 := by rw [HS1.out, List.length_append, HLN2.out]; rfl
              have HN : Hid (M2 w q r k Y (.slice (some ⟨r, 0, none⟩) ((N + 1) + 1) k) (.int .i64 ((m : Int) + 1)) w6) := Lib.hid ⟨m + 1, by omega, by go_num, by rw [hl6], dd_le Y (m + 1), by
                rw [hl6, HS1.out]
                have e9 : flat (V2 ++ [(⟨ys, yr, yn⟩ : En)]) = flat (V2) ++ [.int .u32 ys, .int .u32 yr, .int .u32 yn] := by simp [flat, ent]
                rw [e9]
                exact HO6.out, (HB5.out.alloc _).grown HG6.out (fun e => by have := HR0.out; injection e; omega), so.keptGrown (HK5.out.alloc _) HG6.out (by have := HR0.out; omega)⟩
              clear hl6 HO6 HG6 HB5 HK5 HO5 HS1 y0 y1 y2
              go_roundw
              case rel => first | exact HN.out | ((repeat apply Exists.intro); exact ⟨HN.out, rfl⟩)
              case measure => simp [intOf] <;> omega
        · obtain rfl : m = k := by omega
          obtain ⟨sp, hbr⟩ := own_blk31 HO.out
          have ht : Y.take m = Y := List.take_of_length_le (by rw [HYL.out]; exact Nat.le_refl _)
          rw [ht] at hbr hdl ⊢
          have HF : Hid (Modelled w L (.returned (.slice (some ⟨r, 0, none⟩) (dd Y).length m)) wr) := Lib.hid ⟨r, m, sp, Y, rfl, HY1.out, HY2.out, hbr, by rw [HLN.out]; exact hdl, HK4.out⟩
          clear hbr HO HBY HK4
          go_wp2_with fail
          go_ret
          exact HF.out
end Go.Proofs.Ytbnkhpbgibgahaa.es
