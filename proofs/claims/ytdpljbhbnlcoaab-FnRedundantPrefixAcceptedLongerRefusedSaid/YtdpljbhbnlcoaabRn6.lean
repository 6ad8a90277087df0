/-
  FnRedundantPrefixAcceptedLongerRefused over this seat's program: the whole walk.
  Conditions: none.
-/
import Derived.Test.YtdpljbhbnlcoaabRn5
import Derived.Test.YtdpljbhbnlcoaabClone16
import Derived.OwnWalk
namespace Go.Proofs.Ytdpljbhbnlcoaab.rd
open Go.ChangeShapes Go.WideShapes Go.ChangeAt Go.RowKit
open kit

theorem Row.first {w : World} {a : Option Addr} {n cap k : Nat} {zs : List Int} (h : Row w a n cap (zs.map (Value.int .u16))) (hk : k ≤ n) : Row w a k cap ((zs.take k).map (Value.int .u16)) := by
  have hl : zs.length = n := by simpa using h.1
  refine ⟨by simp [hl]; omega, by have := h.2.1; omega, h.2.2.1, h.2.2.2.1, fun h0 => ?_⟩
  obtain ⟨b, off, e, hb, hc⟩ := h.2.2.2.2 (by omega)
  refine ⟨b, off, e, hb, fun i hi => ?_⟩
  have hi2 : i < k := by simp [hl] at hi; omega
  rw [hc i (by simp [hl]; omega)]
  simp
def takeV (zs : List Int) (k : Nat) : List Value := (zs.take k).map (Value.int .u16)
theorem takeV_succ {zs : List Int} {k : Nat} (h : k < zs.length) : takeV zs k ++ [.int .u16 (zs.getD k 0)] = takeV zs (k + 1) := by
  have e : zs.getD k 0 = zs[k] := by simp [h]
  unfold takeV
  rw [e, List.take_succ_eq_append_getElem h, List.map_append]
  rfl
theorem oneNews (w : World) (v : Value) (t : TypeId) : ∀ j u, [v][j]? = some u → (w.alloc (.cells #[v] t)).cell? ((⟨w.heap.size, 0, none⟩ : Addr).add j) = some u := by
  intro j u h
  cases j with
  | zero =>
    have := (Blk.new w t [v]).cell 0
    have e : (⟨w.heap.size, 0, none⟩ : Addr).add 0 = ⟨w.heap.size, 0, none⟩ := by simp [Addr.add]
    rw [e, this]; exact h
  | succ j => simp at h
theorem one1 (x : Int) : ∀ u ∈ [Value.int .u16 x], u.oneCell' = true := by simp [Value.oneCell']
theorem keptGrown {w a b : World} {q : Nat} (h : Kept w a) (g : a.grownBy b (some q)) (hq : w.heap.size ≤ q) : Kept w b :=
  ⟨g.os.trans h.os, g.tape.trans h.tape, g.output.trans h.output, Nat.le_trans h.size g.size, fun k hk => (g.block k (Nat.lt_of_lt_of_le hk h.size) (fun e => by injection e with e; omega)).trans (h.block k hk)⟩
theorem info28 : (Try.prog.info? 28).map (fun i => (i.zero, i.size, i.bytes)) = some (some (.int .u16 0), 1, 2) := by kernel_rfl
/-- the two appending loops' relation: the first k of all are there -/
def CL (w0 : World) (q n0 n N : Nat) (zs : List Int) (t8 t9 : Value) (W : World) : Prop :=
  ∃ k : Nat, k ≤ n ∧ t9 = .int .i64 (k : Int) ∧ (∃ K, K = n0 + k ∧ t8 = .slice (some ⟨q, 0, none⟩) K N) ∧ Hid (W.ownsRow q 28 1 (.slice (some ⟨q, 0, none⟩) (n0 + k) N) (n0 + k) (takeV zs (n0 + k)) ∧ Kept w0 W)
theorem own_blt {w : World} {q n N : Nat} {xs : List Value} (h : w.ownsRow q 28 1 (.slice (some ⟨q, 0, none⟩) n N) n xs) : q < w.heap.size := (own_lt h q rfl).2
theorem bytes4 (a0 : Option Addr) (n0 c0 : Nat) (a1 : Option Addr) (n1 c1 : Nat) (k : Int) (w : World) :
    Calls Try.prog 4 #[.slice a0 n0 c0, .slice a1 n1 c1, .int .i64 k] w fun e w' => (∃ b, e = .returned (.bool b)) ∧ w = w' := by
  go_enter Try.func4, Try.ntmps4
  go_wp2
  all_goals
    go_ret
    exact ⟨⟨_, rfl⟩, rfl⟩

set_option maxRecDepth 100000 in
set_option maxHeartbeats 16000000 in
theorem main (a0 : Option Addr) (n c0 : Nat) (xs : List Int) (a1 : Option Addr) (m c1 : Nat) (ys : List Int) (kk : Int) (w : World)
    (h0 : Row w a0 n c0 (xs.map (Value.int .u16))) (h1 : Row w a1 m c1 (ys.map (Value.int .u16))) (hx : ∀ j, 0 ≤ xs.getD j 0 ∧ xs.getD j 0 ≤ 65535) (hy : ∀ j, 0 ≤ ys.getD j 0 ∧ ys.getD j 0 ≤ 65535) :
    Calls Try.prog 3 #[.slice a0 n c0, .slice a1 m c1, .int .i64 kk] w fun e w' => e = .returned (.bool true) ∧ Below w.heap.size w w' := by
  have HBY := Lib.hid (bytes4 a0 n c0 a1 m c1 kk w)
  by_cases x0 : 4096 < n
  · go_enter Try.func3, Try.ntmps3
    go_wp2_with fail
    refine HBY.out.mono ?_
    rintro e w' ⟨⟨b, rfl⟩, rfl⟩
    cases b
    · go_wp2_with fail
      go_ret
      exact ⟨rfl, Below.refl _ _⟩
    · go_wp2_with fail
      go_ret
      exact ⟨rfl, Below.refl _ _⟩
  by_cases x1 : 4096 < m
  · go_enter Try.func3, Try.ntmps3
    go_wp2_with fail
    refine HBY.out.mono ?_
    rintro e w' ⟨⟨b, rfl⟩, rfl⟩
    cases b
    · go_wp2_with fail
      go_ret
      exact ⟨rfl, Below.refl _ _⟩
    · go_wp2_with fail
      go_ret
      exact ⟨rfl, Below.refl _ _⟩
  by_cases x2 : kk < 0
  · go_enter Try.func3, Try.ntmps3
    go_wp2_with fail
    refine HBY.out.mono ?_
    rintro e w' ⟨⟨b, rfl⟩, rfl⟩
    cases b
    · go_wp2_with fail
      go_ret
      exact ⟨rfl, Below.refl _ _⟩
    · go_wp2_with fail
      go_ret
      exact ⟨rfl, Below.refl _ _⟩
  by_cases x3 : (n : Int) < kk
  · go_enter Try.func3, Try.ntmps3
    go_wp2_with fail
    refine HBY.out.mono ?_
    rintro e w' ⟨⟨b, rfl⟩, rfl⟩
    cases b
    · go_wp2_with fail
      go_ret
      exact ⟨rfl, Below.refl _ _⟩
    · go_wp2_with fail
      go_ret
      exact ⟨rfl, Below.refl _ _⟩
  by_cases x4 : m = 0
  · subst x4
    go_enter Try.func3, Try.ntmps3
    go_wp2_with fail
    refine HBY.out.mono ?_
    rintro e w' ⟨⟨b, rfl⟩, rfl⟩
    cases b
    · go_wp2_with fail
      go_ret
      exact ⟨rfl, Below.refl _ _⟩
    · go_wp2_with fail
      go_ret
      exact ⟨rfl, Below.refl _ _⟩
  have HX := Lib.hid hx
  have HY := Lib.hid hy
  have HLX : Hid (xs.length = n) := Lib.hid (by simpa using h0.1)
  have HLY : Hid (ys.length = m) := Lib.hid (by simpa using h1.1)
  have C0 := Lib.hid (clone16.run a0 n c0 xs w h0 (by omega))
  have H1 := Lib.hid h1
  clear h0 h1 hx hy
  obtain ⟨k, rfl⟩ : ∃ k : Nat, kk = (k : Int) := ⟨kk.toNat, by omega⟩
  have hm0 : ((m : Int) == 0) = false := by simp; omega
  obtain ⟨cur, hcur, hmk⟩ := make0 (T := 22) (E := 28) Try.underlying22 info28 (n + m) ((n : Int) + (m : Int)) (by omega) (by omega) (by unfold maxLen; omega)
  obtain ⟨i0, hi, hz0, hz1, hz2⟩ := info_parts info28
  have HCUR := Lib.hid hcur
  clear hcur hz0 hz2
  go_enter Try.func3, Try.ntmps3
  go_wp2_with fail
  refine HBY.out.mono ?_
  rintro e w' ⟨⟨b, rfl⟩, rfl⟩
  cases b
  · go_wp2_with fail
    go_ret
    exact ⟨rfl, Below.refl _ _⟩
  go_wp2_with fail
  refine C0.out.mono ?_
  rintro e w1 ⟨p0, rfl, o0, _, k1⟩
  have R0 := Lib.hid (Row.of_own o0)
  have K1 := Lib.hid k1
  have C1 := Lib.hid (clone16.run a1 m c1 ys w1 (H1.out.kept k1) (by omega))
  clear o0 k1 C0 HBY H1
  go_wp2_with fail
  refine C1.out.mono ?_
  rintro e w2 ⟨p1, rfl, o1, _, k2⟩
  have R1 := Lib.hid (Row.of_own o1)
  have R02 := Lib.hid (R0.out.kept k2)
  have K2 := Lib.hid (K1.out.trans k2)
  have D0 := Lib.hid (condsC p0 n n xs w2 R02.out HX.out (by omega))
  clear o1 k2 C1 R0 K1
  go_wp2_with fail
  refine D0.out.mono ?_
  rintro e w3 ⟨rfl, cd3, k3⟩
  have CD3 := Lib.hid cd3
  have R03 := Lib.hid (R02.out.kept k3)
  have R13 := Lib.hid (R1.out.kept k3)
  have K3 := Lib.hid (K2.out.trans k3)
  have HTK : Hid (∀ j, 0 ≤ (xs.take k).getD j 0 ∧ (xs.take k).getD j 0 ≤ 65535) := Lib.hid (fun j => by
    rcases Nat.lt_or_ge j k with hj | hj
    · have e : (xs.take k).getD j 0 = xs.getD j 0 := by simp only [List.getD_eq_getElem?_getD]; rw [List.getElem?_take_of_lt hj]
      rw [e]; exact HX.out j
    · have e : (xs.take k).getD j 0 = 0 := by
        simp only [List.getD_eq_getElem?_getD]
        rw [List.getElem?_eq_none (by simp; omega)]; rfl
      rw [e]; omega)
  have D1 := Lib.hid (condsC p0 k n (xs.take k) w3 (Row.first R03.out (by omega)) HTK.out (by omega))
  generalize w2.heap.size = b1 at *
  clear cd3 k3 D0 R02 R1 K2
  go_wp2_with fail
  refine D1.out.mono ?_
  rintro e w4 ⟨rfl, cd4, k4⟩
  have YES := Lib.hid (zzYes b1 n n w3.heap.size k k (fn xs) (fn (xs.take k)) w4 (CD3.out.kept k4) cd4 (by omega) (fun j hj => by
    unfold fn
    simp only [List.getD_eq_getElem?_getD]
    rw [List.getElem?_take_of_lt hj]) (by omega))
  have K4 := Lib.hid (K3.out.trans k4)
  have R04 := Lib.hid (R03.out.kept k4)
  have R14 := Lib.hid (R13.out.kept k4)
  clear cd4 k4 D1 R03 R13 K3 CD3 HTK
  go_wp2_with fail
  refine YES.out.mono ?_
  rintro e w5 ⟨rfl, k5⟩
  have K5 := Lib.hid (K4.out.trans k5)
  have R05 := Lib.hid (R04.out.kept k5)
  have R15 := Lib.hid (R14.out.kept k5)
  clear k5 YES K4 R04 R14
  go_wp2_with fail
  generalize hq : w5.heap.size = q at *
  have HQ : Hid (w5.heap.size ≤ q) := Lib.hid (by omega)
  have HST : Hid (CL w5 q 0 n (n + m) (xs ++ ys) (.slice (some ⟨q, 0, none⟩) 0 (n + m)) (.int .i64 0) (w5.alloc (.cells cur 28))) := Lib.hid ⟨0, by omega, rfl, ⟨0, rfl, rfl⟩, Lib.hid ⟨⟨rfl, Or.inr ⟨q, n + m, cur, rfl, Nat.le_refl _, by rw [← hq]; exact heap_alloc_new w5 _, by omega, by unfold maxLen; omega, HCUR.out, by simp [takeV]⟩⟩, (Kept.refl _).alloc _⟩⟩
  clear hq
  generalize w5.alloc (.cells cur 28) = wa at *
  clear hmk HCUR
  go_loopw [8, 9] (fun t8 t9 W => CL w5 q 0 n (n + m) (xs ++ ys) t8 t9 W) (fun _ t9 _ => n - (intOf t9).toNat)
  case atStart => exact HST.out
  case round =>
    obtain ⟨k, hk, rfl, ⟨K, hK, rfl⟩, HB⟩ := hrel
    clear HST
    by_cases hkn : k < n
    · have hki : (k : Int) < (n : Int) := by omega
      obtain ⟨b, off, rfl, hb, hc⟩ := R05.out.2.2.2.2 (by omega)
      have c1 : wr.cell? ⟨b, off + k, none⟩ = some (.int .u16 (xs.getD k 0)) := by
        have hl := HLX.out
        have h1 := HB.out.2.cell (hc k (by simpa [hl] using hkn))
        rw [h1]; simp [hl, hkn]
      have hfit : K + 1 ≤ n + m := by omega
      have hel : (xs ++ ys).getD (0 + k) 0 = xs.getD k 0 := by
        simp only [List.getD_eq_getElem?_getD]
        rw [List.getElem?_append_left (by rw [HLX.out]; omega)]
        rw [Nat.zero_add]
      have HOW : Hid (wr.ownsRow q 28 1 (.slice (some ⟨q, 0, none⟩) K (n + m)) K (takeV (xs ++ ys) K)) := Lib.hid (by rw [hK]; exact HB.out.1)
      have hlt := own_blt HOW.out
      have HEL : Hid (takeV (xs ++ ys) K ++ [.int .u16 (xs.getD k 0)] = takeV (xs ++ ys) (K + 1)) := Lib.hid (by rw [← hel, ← hK]; exact takeV_succ (by have := HLX.out; have := HLY.out; simp; omega))
      have HK := Lib.hid hK
      clear hc hb hel hK
      generalize xs.getD k 0 = x at *
      go_wp2_with (at_builtin; refine wpList_append_fits _ rfl _ _ 22 rfl q 28 i0 1 Try.underlying22 hi hz1 q K (n + m) (takeV (xs ++ ys) K) rfl (HOW.out.alloc _) ⟨wr.heap.size, 0, none⟩ 1 1 [.int .u16 x] rfl rfl (oneNews wr _ 28) (one1 _) hfit ?_)
      intro w2' hown2 hgr2
      rw [HEL.out] at hown2
      have hk2 := keptGrown (HB.out.2.alloc _) hgr2 HQ.out
      have HRR : Hid (CL w5 q 0 n (n + m) (xs ++ ys) (.slice (some ⟨q, 0, none⟩) (K + 1) (n + m)) (.int .i64 ((k : Int) + 1)) w2') := Lib.hid ⟨k + 1, by omega, by go_num, ⟨K + 1, by have := HK.out; omega, rfl⟩, Lib.hid ⟨by have e : 0 + (k + 1) = K + 1 := (by have := HK.out; omega); rw [e]; exact hown2, hk2⟩⟩
      clear hown2 hgr2 hk2
      go_wp2
      go_roundw
      case rel => first | exact HRR.out | ((repeat apply Exists.intro); exact ⟨HRR.out, rfl⟩)
      case measure => simp [intOf]; omega
    · obtain rfl : n = k := by omega
      obtain rfl : K = 0 + n := hK
      have HST : Hid (CL w5 q n m (n + m) (xs ++ ys) (.slice (some ⟨q, 0, none⟩) (0 + n) (n + m)) (.int .i64 0) wr) := Lib.hid ⟨0, by omega, rfl, ⟨0 + n, by omega, rfl⟩, Lib.hid ⟨by have h := HB.out.1; rw [Nat.zero_add] at h; rw [Nat.add_zero]; exact h, HB.out.2⟩⟩
      clear HB
      rw [Nat.zero_add] at HST ⊢
      go_wp2_with fail
      go_loopw [8, 10] (fun t8 t9 W => CL w5 q n m (n + m) (xs ++ ys) t8 t9 W) (fun _ t9 _ => m - (intOf t9).toNat)
      case atStart => exact HST.out
      case round =>
        obtain ⟨k, hk, rfl, ⟨K, hK, rfl⟩, HB⟩ := hrel
        clear HST
        by_cases hkn : k < m
        · have hki : (k : Int) < (m : Int) := by omega
          obtain ⟨b, off, rfl, hb, hc⟩ := R15.out.2.2.2.2 (by omega)
          have c1 : wr.cell? ⟨b, off + k, none⟩ = some (.int .u16 (ys.getD k 0)) := by
            have hl := HLY.out
            have h1 := HB.out.2.cell (hc k (by simpa [hl] using hkn))
            rw [h1]; simp [hl, hkn]
          have hfit : K + 1 ≤ n + m := by omega
          have hel : (xs ++ ys).getD (n + k) 0 = ys.getD k 0 := by
            simp only [List.getD_eq_getElem?_getD]
            rw [List.getElem?_append_right (by rw [HLX.out]; omega)]
            rw [HLX.out, Nat.add_sub_cancel_left]
          have HOW : Hid (wr.ownsRow q 28 1 (.slice (some ⟨q, 0, none⟩) K (n + m)) K (takeV (xs ++ ys) K)) := Lib.hid (by rw [hK]; exact HB.out.1)
          have hlt := own_blt HOW.out
          have HEL : Hid (takeV (xs ++ ys) K ++ [.int .u16 (ys.getD k 0)] = takeV (xs ++ ys) (K + 1)) := Lib.hid (by rw [← hel, ← hK]; exact takeV_succ (by have := HLX.out; have := HLY.out; simp; omega))
          have HK := Lib.hid hK
          clear hc hb hel hK
          generalize ys.getD k 0 = x at *
          go_wp2_with (at_builtin; refine wpList_append_fits _ rfl _ _ 22 rfl q 28 i0 1 Try.underlying22 hi hz1 q K (n + m) (takeV (xs ++ ys) K) rfl (HOW.out.alloc _) ⟨wr.heap.size, 0, none⟩ 1 1 [.int .u16 x] rfl rfl (oneNews wr _ 28) (one1 _) hfit ?_)
          intro w2' hown2 hgr2
          rw [HEL.out] at hown2
          have hk2 := keptGrown (HB.out.2.alloc _) hgr2 HQ.out
          have HRR : Hid (CL w5 q n m (n + m) (xs ++ ys) (.slice (some ⟨q, 0, none⟩) (K + 1) (n + m)) (.int .i64 ((k : Int) + 1)) w2') := Lib.hid ⟨k + 1, by omega, by go_num, ⟨K + 1, by have := HK.out; omega, rfl⟩, Lib.hid ⟨by have e : n + (k + 1) = K + 1 := (by have := HK.out; omega); rw [e]; exact hown2, hk2⟩⟩
          clear hown2 hgr2 hk2
          go_wp2
          go_roundw
          case rel => first | exact HRR.out | ((repeat apply Exists.intro); exact ⟨HRR.out, rfl⟩)
          case measure => simp [intOf]; omega
        · obtain rfl : m = k := by omega
          obtain rfl : K = n + m := hK
          have HOW := Lib.hid HB.out.1
          have KF := Lib.hid (K5.out.trans HB.out.2)
          have RL : Hid (Row wr (some ⟨q, 0, none⟩) (n + m) (n + m) ((xs ++ ys).map (Value.int .u16))) := Lib.hid (by
            have h := Row.of_own (own_mono HOW.out (Nat.zero_le _))
            have e : takeV (xs ++ ys) (n + m) = (xs ++ ys).map (Value.int .u16) := by
              unfold takeV
              rw [List.take_of_length_le (by have := HLX.out; have := HLY.out; simp; omega)]
            rw [e] at h
            exact h)
          have HXY : Hid (∀ j, 0 ≤ (xs ++ ys).getD j 0 ∧ (xs ++ ys).getD j 0 ≤ 65535) := Lib.hid (fun j => by
            simp only [List.getD_eq_getElem?_getD]
            rcases Nat.lt_or_ge j xs.length with hj | hj
            · rw [List.getElem?_append_left hj]; have := HX.out j; rwa [List.getD_eq_getElem?_getD] at this
            · rw [List.getElem?_append_right hj]; have := HY.out (j - xs.length); rwa [List.getD_eq_getElem?_getD] at this)
          have D2 := Lib.hid (condsC (some ⟨q, 0, none⟩) (n + m) (n + m) (xs ++ ys) wr RL.out HXY.out (by omega))
          clear HB
          go_wp2_with fail
          refine D2.out.mono ?_
          rintro e w7 ⟨rfl, _, k7⟩
          have KF2 := Lib.hid (KF.out.trans k7)
          clear k7
          go_wp2_with fail
          refine (zzNo b1 n n wr.heap.size (n + m) (n + m) w7 (by omega) (by omega)).mono ?_
          rintro e w8 ⟨rfl, rfl⟩
          go_wp2_with fail
          go_ret
          exact ⟨rfl, KF2.out⟩
end Go.Proofs.Ytdpljbhbnlcoaab.rd
