/-
  sort.choosePivot and sort.breakPatterns over this seat's program: an index of the range; the range permuted.
  Conditions: the range lies in the row.
-/
import Derived.Test.YtbnkhpbgibgahaaWo
import Derived.Test.YtbnkhpbgibgahaaSh
import Derived.Laws.Bits64b
import Derived.Deep.CutBlock
import Derived.Deep.CutRange
namespace Go.Proofs.Ytbnkhpbgibgahaa.so
open Go.ChangeShapes Go.WideShapes Go.ChangeAt Go.RowKit
open kit ms sq fl Go.Sort

theorem medianP {b n : Nat} {sp : List Value} {rv : Value} (I : Ifc b n sp rv) (w0 w : World) (d : Array En) (g k x y z : Nat) (h : Rw b n sp w0 d w) (hg : w0.heap.size ≤ g) (hc : Cnt w g k) (hk : k ≤ 900) (hx : x < n) (hy : y < n) (hz : z < n) {p q r : Int} (hp : p = x) (hq : q = y) (hr : r = z) :
    Calls Try.prog 35 #[.iface 35 rv, .int .i64 p, .int .i64 q, .int .i64 r, .pointer (some ⟨g, 0, none⟩)] w (Med b n sp w0 d g (k + 3) x y z) := by
  subst hp hq hr
  exact median I w0 w d g k x y z h hg hc hk hx hy hz
theorem medianAdjP {b n : Nat} {sp : List Value} {rv : Value} (I : Ifc b n sp rv) (w0 w : World) (d : Array En) (g k x : Nat) (h : Rw b n sp w0 d w) (hg : w0.heap.size ≤ g) (hc : Cnt w g k) (hk : k ≤ 900) (hx0 : 1 ≤ x) (hx : x + 1 < n) {p : Int} (hp : p = x) :
    Calls Try.prog 34 #[.iface 35 rv, .int .i64 p, .pointer (some ⟨g, 0, none⟩)] w (Med b n sp w0 d g (k + 3) (x - 1) x (x + 1)) := by
  subst hp
  have h2 := medianAdj I w0 w d g k (x - 1) h hg hc hk (by omega)
  rw [show ((x - 1 : Nat) : Int) + 1 = (x : Int) by omega, show x - 1 + 1 = x by omega, show x - 1 + 2 = x + 1 by omega] at h2
  exact h2

set_option maxRecDepth 100000 in
set_option maxHeartbeats 8000000 in
theorem choose {b n : Nat} {sp : List Value} {rv : Value} (I : Ifc b n sp rv) (w0 w : World) (d : Array En) (x y : Nat) (h : Rw b n sp w0 d w) (hxy : x + 12 < y) (hy : y ≤ n) :
    Calls Try.prog 26 #[.iface 35 rv, .int .i64 (x : Int), .int .i64 (y : Int)] w (Piv b n sp w0 d x y) := by
  obtain ⟨L, rfl⟩ : ∃ L, y = x + L := ⟨y - x, by omega⟩
  obtain ⟨q, hq0⟩ : ∃ q, q = L / 4 := ⟨_, rfl⟩
  have hq : (L : Int).tdiv 4 = (q : Int) := by
    rw [Int.tdiv_eq_ediv_of_nonneg (by omega)]
    omega
  have hq1 : 4 * q ≤ L := by omega
  have hq2 : L < 4 * q + 4 := by omega
  clear hq0
  have hs1 : (x : Int) + (L : Int) - (x : Int) = (L : Int) := by omega
  have hsm := I.small
  have HI := Lib.hid I
  have HR := Lib.hid (h.alloc (.cells #[.int .i64 0] 3))
  have HC : Hid (Cnt (w.alloc (.cells #[.int .i64 0] 3)) w.heap.size 0) := Lib.hid ⟨0, Nat.le_refl _, Blk.new w 3 [.int .i64 0]⟩
  have HG := Lib.hid h.turn.size
  clear I h
  rw [show ((x + L : Nat) : Int) = (x : Int) + (L : Int) by omega]
  by_cases h50 : 50 ≤ L
  · go_enter Try.func26, Try.ntmps26
    go_upto_if 34 with fail
    generalize w.alloc (.cells #[.int .i64 0] 3) = wa at *
    go_upto_region 12 with (first
      | (go_at_call 34; refine (medianAdjP HI.out w0 _ d _ 0 (x + q) HR.out HG.out HC.out (by omega) (by omega) (by omega) (by omega)).mono ?_; rintro e w1 ⟨u1, o1, rfl, hr, hc⟩; have HR1 := Lib.hid hr; have HC1 := Lib.hid hc; clear hr hc)
      | (go_at_call 34; refine (medianAdjP HI.out w0 _ d _ 3 (x + 2 * q) HR1.out HG.out HC1.out (by omega) (by omega) (by omega) (by omega)).mono ?_; rintro e w2 ⟨u2, o2, rfl, hr, hc⟩; have HR2 := Lib.hid hr; have HC2 := Lib.hid hc; clear hr hc)
      | (go_at_call 34; refine (medianAdjP HI.out w0 _ d _ 6 (x + 3 * q) HR2.out HG.out HC2.out (by omega) (by omega) (by omega) (by omega)).mono ?_; rintro e w3 ⟨u3, o3, rfl, hr, hc⟩; have HR3 := Lib.hid hr; have HC3 := Lib.hid hc; clear hr hc)
      | (go_at_call 35; refine (medianP HI.out w0 _ d _ 9 u1 u2 u3 HR3.out HG.out HC3.out (by omega) (by omega) (by omega) (by omega) (by omega) (by omega) (by omega)).mono ?_; rintro e w4 ⟨u4, o4, rfl, hr, hc⟩; have HR4 := Lib.hid hr; have HC4 := Lib.hid hc; clear hr hc))
    have hu1 : x ≤ u4 := by omega
    have hu2 : u4 < x + L := by omega
    obtain ⟨v, hv, hb⟩ := HC4.out
    have c0 := hb.cell 0
    simp only [List.getElem?_cons_zero] at c0
    clear hb
    by_cases e0 : v = 0
    · subst e0
      go_wp2_with fail
      refine bodyPost_ret (v := .tuple #[.int .i64 (u4 : Int), .int .i64 1]) (by simp [results, Try.results26, go_sem]) rfl ?_
      exact ⟨u4, 1, hu1, hu2, by omega, rfl, HR4.out⟩
    · have e1 : ((v : Int) == 0) = false := by simp; omega
      by_cases e2 : v = 12
      · subst e2
        go_wp2_with fail
        refine bodyPost_ret (v := .tuple #[.int .i64 (u4 : Int), .int .i64 2]) (by simp [results, Try.results26, go_sem]) rfl ?_
        exact ⟨u4, 2, hu1, hu2, by omega, rfl, HR4.out⟩
      · have e3 : ((v : Int) == 12) = false := by simp; omega
        go_wp2_with fail
        refine bodyPost_ret (v := .tuple #[.int .i64 (u4 : Int), .int .i64 0]) (by simp [results, Try.results26, go_sem]) rfl ?_
        exact ⟨u4, 0, hu1, hu2, by omega, rfl, HR4.out⟩
  · go_enter Try.func26, Try.ntmps26
    go_upto_if 34 with fail
    generalize w.alloc (.cells #[.int .i64 0] 3) = wa at *
    go_upto_region 12 with (first
      | (go_at_call 35; refine (medianP HI.out w0 _ d _ 0 (x + q) (x + 2 * q) (x + 3 * q) HR.out HG.out HC.out (by omega) (by omega) (by omega) (by omega) (by omega) (by omega) (by omega)).mono ?_; rintro e w4 ⟨u4, o4, rfl, hr, hc⟩; have HR4 := Lib.hid hr; have HC4 := Lib.hid hc; clear hr hc))
    have hu1 : x ≤ u4 := by omega
    have hu2 : u4 < x + L := by omega
    obtain ⟨v, hv, hb⟩ := HC4.out
    have c0 := hb.cell 0
    simp only [List.getElem?_cons_zero] at c0
    clear hb
    by_cases e0 : v = 0
    · subst e0
      go_wp2_with fail
      refine bodyPost_ret (v := .tuple #[.int .i64 (u4 : Int), .int .i64 1]) (by simp [results, Try.results26, go_sem]) rfl ?_
      exact ⟨u4, 1, hu1, hu2, by omega, rfl, HR4.out⟩
    · have e1 : ((v : Int) == 0) = false := by simp; omega
      by_cases e2 : v = 12
      · subst e2
        go_wp2_with fail
        refine bodyPost_ret (v := .tuple #[.int .i64 (u4 : Int), .int .i64 2]) (by simp [results, Try.results26, go_sem]) rfl ?_
        exact ⟨u4, 2, hu1, hu2, by omega, rfl, HR4.out⟩
      · have e3 : ((v : Int) == 12) = false := by simp; omega
        go_wp2_with fail
        refine bodyPost_ret (v := .tuple #[.int .i64 (u4 : Int), .int .i64 0]) (by simp [results, Try.results26, go_sem]) rfl ?_
        exact ⟨u4, 0, hu1, hu2, by omega, rfl, HR4.out⟩

/-- breakPatterns' loop -/
def BP (b n : Nat) (sp : List Value) (w0 : World) (x L q g : Nat) (d : Array En) (t : Value) (W : World) : Prop :=
  ∃ (k r : Nat) (d2 : Array En), k ≤ 3 ∧ t = .int .i64 ((x : Int) + (q : Int) * 2 - 1 + (k : Int)) ∧ r < 18446744073709551616 ∧ PermIn x (x + L) d d2 ∧ Rw b n sp w0 d2 W ∧ Blk W g 94 [.int .u64 (r : Int)]
def Broken (b n : Nat) (sp : List Value) (w0 : World) (x y : Nat) (d : Array En) (e : Ending) (w : World) : Prop := e = .returned (.tuple #[]) ∧ ∃ d2, PermIn x y d d2 ∧ Rw b n sp w0 d2 w

set_option maxRecDepth 100000 in
set_option maxHeartbeats 8000000 in
theorem break_ {b n : Nat} {sp : List Value} {rv : Value} (I : Ifc b n sp rv) (w0 w : World) (d : Array En) (x y : Nat) (h : Rw b n sp w0 d w) (hxy : x + 12 < y) (hy : y ≤ n) :
    Calls Try.prog 25 #[.iface 35 rv, .int .i64 (x : Int), .int .i64 (y : Int)] w (Broken b n sp w0 x y d) := by
  obtain ⟨L, rfl⟩ : ∃ L, y = x + L := ⟨y - x, by omega⟩
  obtain ⟨q, hq0⟩ : ∃ q, q = L / 4 := ⟨_, rfl⟩
  have hq : (L : Int).tdiv 4 = (q : Int) := by
    rw [Int.tdiv_eq_ediv_of_nonneg (by omega)]
    omega
  have hq1 : 4 * q ≤ L := by omega
  have hq2 : L < 4 * q + 4 := by omega
  clear hq0
  have hs1 : (x : Int) + (L : Int) - (x : Int) = (L : Int) := by omega
  have m2 := mSwap rv
  have hsm := I.small
  have hsz := h.sz
  obtain ⟨M, hM⟩ : ∃ M : Nat, M = 1 <<< bitsLen L := ⟨_, rfl⟩
  have hM1 : 1 ≤ M := by rw [hM, Nat.one_shiftLeft]; exact Nat.two_pow_pos _
  have hM2 : M ≤ 2 * L := by rw [hM, Nat.one_shiftLeft]; exact two_pow_bitsLen_le (by omega)
  have HNP := Lib.hid (fun W => Try.nextPowerOfTwo L (by omega) W)
  rw [← hM] at HNP
  clear hM
  have HI := Lib.hid I
  have H0 : Hid (BP b n sp w0 x L q w.heap.size d (.int .i64 ((x : Int) + (q : Int) * 2 - 1)) (w.alloc (.cells #[.int .u64 (L : Int)] 94))) := Lib.hid ⟨0, L, d, by omega, by simp, by omega, permIn_refl _ _ _, h.alloc _, Blk.new w 94 [.int .u64 (L : Int)]⟩
  have HG := Lib.hid h.turn.size
  clear I h
  rw [show ((x + L : Nat) : Int) = (x : Int) + (L : Int) by omega]
  go_enter Try.func25, Try.ntmps25
  go_wp2_with (first | (go_at_call 32; refine (HNP.out _).mono ?_; rintro e w' ⟨rfl, rfl⟩))
  generalize w.alloc (.cells #[.int .u64 (L : Int)] 94) = wa at *
  obtain ⟨g, hg⟩ : ∃ g, g = w.heap.size := ⟨_, rfl⟩
  rw [← hg] at H0 HG ⊢
  clear hg
  go_loopw [9] (fun t W => BP b n sp w0 x L q g d t W) (fun t _ => ((x : Int) + (q : Int) * 2 + 2 - intOf t).toNat)
  case atStart => exact H0.out
  case round =>
    obtain ⟨k, r, d2, hk, rfl, hr, hP, hR, hB⟩ := hrel
    have HP := Lib.hid hP
    have HR := Lib.hid hR
    have HB := Lib.hid hB
    clear hP hR hB H0
    by_cases hk3 : k < 3
    · obtain ⟨r2, hr2⟩ : ∃ r2 : Nat, r2 = xorNextN r := ⟨_, rfl⟩
      have lr2 : r2 < 18446744073709551616 := by rw [hr2]; exact xorNextN_lt r hr
      obtain ⟨o, ho⟩ : ∃ o : Nat, o = r2 &&& (M - 1) := ⟨_, rfl⟩
      have lo : o ≤ M - 1 := by rw [ho]; exact Nat.and_le_right
      have eAnd : bits .and .u64 (r2 : Int) ((M : Int) - 1) = (o : Int) := by
        rw [show ((M : Int) - 1) = ((M - 1 : Nat) : Int) by omega, bits_and_u64_nat _ _ lr2 (by omega), ho]
      have hN := Try.xorshift_Next g 0 r hr wr (HB.out.cell 0) (HB.out.free 0)
      rw [← hr2] at hN
      have HN := Lib.hid hN
      have HB2 := Lib.hid ((HB.out.set 0 (.int .u64 (r2 : Int))).drewN 3)
      have HR2 := Lib.hid ((HR.out.setNew (p := ⟨g, 0, none⟩) HG.out (.int .u64 (r2 : Int))).kept ((Kept.refl _).drewN 3))
      have hgb : g ≠ b := by have := HG.out; have := HR.out.lt; omega
      have HGB := Lib.hid hgb
      clear hgb hN hr2 ho HR HB
      go_upto_region 8 with (first | (go_at_call 33; refine HN.out.mono ?_; rintro e w' ⟨rfl, rfl⟩))
      generalize (wr.setCell ⟨g, 0, none⟩ (.int .u64 (r2 : Int))).drewN 3 = w2 at *
      clear HN
      by_cases hoL : L ≤ o
      · go_wp2_with (first
          | (go_at_call 54; refine (HI.out.swapB (x + q * 2 - 1 + k) (x + (o - L)) HR2.out.from_ (by omega) (by omega) (by omega) (by omega)).mono ?_; rintro e w3 ⟨rfl, hr3⟩; have HR3 := Lib.hid (HR2.out.trans hr3); have HB3 := Lib.hid (hr3.turn.blk HB2.out (fun e => HGB.out e)); clear hr3))
        have HN9 : Hid (BP b n sp w0 x L q g d (.int .i64 ((x : Int) + (q : Int) * 2 - 1 + (k : Int) + 1)) w3) := Lib.hid ⟨k + 1, r2, _, by omega, by congr 1; omega, lr2, permIn_trans _ _ _ _ _ HP.out (swp_permIn d2 x (x + L) _ _ (by omega) (by omega) (by omega) (by omega) (by rw [HR2.out.sz]; omega)), HR3.out, HB3.out⟩
        go_roundw
        case rel => first | exact HN9.out | ((repeat apply Exists.intro); exact ⟨HN9.out, rfl⟩)
        case measure => simp [intOf] <;> omega
      · go_wp2_with (first
          | (go_at_call 54; refine (HI.out.swapB (x + q * 2 - 1 + k) (x + o) HR2.out.from_ (by omega) (by omega) (by omega) (by omega)).mono ?_; rintro e w3 ⟨rfl, hr3⟩; have HR3 := Lib.hid (HR2.out.trans hr3); have HB3 := Lib.hid (hr3.turn.blk HB2.out (fun e => HGB.out e)); clear hr3))
        have HN9 : Hid (BP b n sp w0 x L q g d (.int .i64 ((x : Int) + (q : Int) * 2 - 1 + (k : Int) + 1)) w3) := Lib.hid ⟨k + 1, r2, _, by omega, by congr 1; omega, lr2, permIn_trans _ _ _ _ _ HP.out (swp_permIn d2 x (x + L) _ _ (by omega) (by omega) (by omega) (by omega) (by rw [HR2.out.sz]; omega)), HR3.out, HB3.out⟩
        go_roundw
        case rel => first | exact HN9.out | ((repeat apply Exists.intro); exact ⟨HN9.out, rfl⟩)
        case measure => simp [intOf] <;> omega
    · obtain rfl : k = 3 := by omega
      go_wp2_with fail
      go_end0
      exact ⟨rfl, d2, HP.out, HR.out⟩
end Go.Proofs.Ytbnkhpbgibgahaa.so
