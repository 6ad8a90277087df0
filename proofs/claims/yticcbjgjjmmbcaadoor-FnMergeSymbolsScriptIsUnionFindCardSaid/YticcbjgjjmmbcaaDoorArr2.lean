/-
  More contracts of n011_236's helpers over this seat's program: the flat targets, the refs.
  Conditions: at most 4096 symbols.
-/
import Derived.Test.YticcbjgjjmmbcaaDoorArr
namespace Go.Proofs.YticcbjgjjmmbcaaDoor.arr
open Go.ChangeShapes Go.WideShapes Go.ChangeAt Go.RowKit
open kit chain arena cut

def cells2 (l : List Ref) : List Value := l.flatMap fun p => [.int .u32 (p.1 : Int), .int .u32 (p.2 : Int)]
theorem cells2_cons (x : Ref) (l : List Ref) : cells2 (x :: l) = .int .u32 (x.1 : Int) :: .int .u32 (x.2 : Int) :: cells2 l := rfl
theorem cells2_at (l : List Ref) (k : Nat) (hk : k < l.length) : (cells2 l)[k * 2]? = some (.int .u32 ((l.getD k (0, 0)).1 : Int)) ∧ (cells2 l)[k * 2 + 1]? = some (.int .u32 ((l.getD k (0, 0)).2 : Int)) := by
  induction l generalizing k with
  | nil => simp at hk
  | cons x r ih =>
    rw [cells2_cons]
    cases k with
    | zero => simp
    | succ k =>
      have h := ih k (by simpa using hk)
      have e1 : (k + 1) * 2 = k * 2 + 1 + 1 := by omega
      rw [e1]
      simpa using h
theorem cells2_set (l : List Ref) (k : Nat) (p : Ref) (hk : k < l.length) : ((cells2 l).set (k * 2) (.int .u32 (p.1 : Int))).set (k * 2 + 1) (.int .u32 (p.2 : Int)) = cells2 (l.set k p) := by
  induction l generalizing k with
  | nil => simp at hk
  | cons x r ih =>
    cases k with
    | zero => simp [cells2_cons]
    | succ k =>
      have h := ih k (by simpa using hk)
      have e1 : (k + 1) * 2 = k * 2 + 1 + 1 := by omega
      rw [e1, List.set_cons_succ, cells2_cons, cells2_cons]
      simp only [List.set_cons_succ]
      rw [h]
theorem cells2_zero (n : Nat) : cells2 (List.replicate n (0, 0)) = List.replicate (n * 2) (.int .u32 0) := by
  induction n with
  | zero => rfl
  | succ n ih =>
    rw [List.replicate_succ, cells2_cons, ih, show (n + 1) * 2 = n * 2 + 1 + 1 by omega, List.replicate_succ, List.replicate_succ]
    rfl
/-- a row of refs that a loop fills -/
def fillR (F : Nat → Ref) (n k : Nat) : List Ref := (List.range n).map fun j => if j < k then F j else (0, 0)
section
variable (F : Nat → Ref) {n k : Nat}
theorem fillR_length (n k : Nat) : (fillR F n k).length = n := by simp [fillR]
theorem fillR_at (h : k < n) : (fillR F n k).getD k (0, 0) = (0, 0) := by simp [fillR, h]
theorem fillR_set (h : k < n) : (fillR F n k).set k (F k) = fillR F n (k + 1) := by
  apply List.ext_getElem?
  intro j
  by_cases hj : k = j
  · subst hj
    rw [List.getElem?_set_self (by simpa [fillR] using h)]
    simp [fillR, h]
  · rw [List.getElem?_set_ne hj]
    simp only [fillR, List.getElem?_map]
    by_cases hjn : j < n
    · rw [List.getElem?_range hjn]
      simp only [Option.map_some]
      by_cases hk : j < k
      · rw [if_pos hk, if_pos (by omega)]
      · rw [if_neg hk, if_neg (by omega)]
    · simp [hjn]
theorem fillR_zero (n : Nat) : fillR F n 0 = List.replicate n (0, 0) := by
  apply List.ext_getElem?
  intro j
  simp only [fillR, List.getElem?_map, List.getElem?_replicate]
  by_cases h : j < n <;> simp [h]
theorem fillR_full (h : k < n) : (fillR F n n).getD k (0, 0) = F k := by simp [fillR, h]
end
theorem infoRef : (Tryd.prog.info? 44).map (fun i => (i.zero, i.size, i.bytes)) = some (some (.agg #[.int .u32 0, .int .u32 0]), 2, 8) := by kernel_rfl
theorem madeRef (n : Nat) : (madeCells #[Value.int .u32 0, .int .u32 0] (n * 2)).toList = List.replicate (n * 2) (.int .u32 0) := by
  apply List.ext_getElem?
  intro i
  rw [List.getElem?_replicate]
  by_cases h : i < n * 2
  · rw [if_pos h]
    simp only [madeCells, Array.toList_map, List.getElem?_map, Array.toList_range, List.getElem?_range h, Option.map_some]
    have hm : i % 2 = 0 ∨ i % 2 = 1 := by omega
    have hs : (#[Value.int .u32 0, Value.int .u32 0] : Array Value).size = 2 := rfl
    rw [hs]
    rcases hm with hm | hm <;> rw [hm] <;> rfl
  · rw [if_neg h, List.getElem?_eq_none (by rw [Array.length_toList, size_madeCells]; omega)]
theorem makeRefs (n : Nat) (hn : n ≤ 1048576) : ∃ C : Array Value, C.toList = List.replicate (n * 2) (.int .u32 0) ∧ ∀ w : World, (Instr.makeSlice 34 (.int .i64 (n : Int)) (.int .i64 (n : Int))).run Tryd.prog w = .ok (.slice (some ⟨w.heap.size, 0, none⟩) n n) (w.alloc (.cells C 44)) := by
  obtain ⟨i, hi, hz, hs, hby⟩ := info_parts infoRef
  refine ⟨madeCells #[.int .u32 0, .int .u32 0] (n * 2), madeRef n, fun w => ?_⟩
  have hb : (i.bytes : Int) * (n : Int) ≤ 281474976710656 := by rw [hby]; omega
  have hr := run_make (P := Tryd.prog) w 34 44 i _ Tryd.underlying34 hi hz .i64 .i64 n n (by omega) (by omega) hb (by omega)
  simp only [Int.toNat_natCast, hs] at hr
  exact hr

/-- the row of all refs lies in block b -/
def RefAt (w : World) (b : Nat) (zs : List Int) (n : Nat) : Prop := Blk w b 44 (cells2 (fillR (ref zs n) n n))
theorem RefAt.cells {w : World} {b : Nat} {zs : List Int} {n i : Nat} (h : RefAt w b zs n) (hi : i < n) : w.cell? ⟨b, i * 2, none⟩ = some (.int .u32 ((ref zs n i).1 : Int)) ∧ w.cell? ⟨b, i * 2 + 1, none⟩ = some (.int .u32 ((ref zs n i).2 : Int)) := by
  have h2 := cells2_at (fillR (ref zs n) n n) i (by rw [fillR_length]; exact hi)
  rw [fillR_full (ref zs n) hi] at h2
  exact ⟨(Blk.cell h _).trans h2.1, (Blk.cell h _).trans h2.2⟩
def RefsOk (w : World) (zs : List Int) (n : Nat) (e : Ending) (w' : World) : Prop :=
  e = .returned (.slice (some ⟨w.heap.size, 0, none⟩) n n) ∧ RefAt w' w.heap.size zs n ∧ Kept w w'

set_option maxRecDepth 100000 in
set_option maxHeartbeats 4000000 in
theorem refsC (cb c n : Nat) (zs : List Int) (w : World) (h : IntAt w cb (counts zs n)) (hS : srcs zs n ≤ 4097) (hn : n ≤ 4096) :
    Calls Tryd.prog 13 #[.slice (some ⟨cb, 0, none⟩) (srcs zs n) c, .int .i64 (n : Int)] w (RefsOk w zs n) := by
  obtain ⟨C, hC, hmk⟩ := makeRefs n (by omega)
  have HC := Lib.hid hC
  have H := Lib.hid h
  clear hC h
  generalize hSS : srcs zs n = S at *
  have HSS := Lib.hid hSS
  clear hSS
  go_enter Tryd.func13, Tryd.ntmps13
  go_wp2_with fail
  generalize hq : w.heap.size = q at *
  have HQ := Lib.hid hq
  clear hq
  have HST : Hid (Blk (w.alloc (.cells C 44)) q 44 (cells2 (fillR (ref zs n) n 0)) ∧ Kept w (w.alloc (.cells C 44))) := by
    refine Lib.hid ⟨?_, (Kept.refl _).alloc _⟩
    have e : C = (cells2 (fillR (ref zs n) n 0)).toArray := by rw [← Array.toList_inj, HC.out, fillR_zero, cells2_zero]
    rw [e, ← HQ.out]
    exact Blk.new _ _ _
  generalize w.alloc (.cells C 44) = wa at *
  clear hmk HC
  go_loopw [6, 7, 8] (fun t6 _ _ wr => ∃ i : Nat, i ≤ n ∧ t6 = .int .i64 (i : Int) ∧ Blk wr q 44 (cells2 (fillR (ref zs n) n i)) ∧ Kept w wr) (fun t _ _ _ => n - (intOf t).toNat)
  case atStart => exact ⟨0, by omega, rfl, HST.out.1, HST.out.2⟩
  case round =>
    obtain ⟨i, hi, rfl, hbl, hkp⟩ := hrel
    by_cases hlt : i < n
    · have HBL := Lib.hid hbl
      have HKP := Lib.hid hkp
      clear hbl hkp
      obtain ⟨wo, hwo⟩ : ∃ wo : World, wo = wr := ⟨_, rfl⟩
      subst hwo
      go_wp2_with fail
      go_loop [7, 8] (fun t7 t8 => ∃ s : Nat, s < S ∧ pos zs n s ≤ i ∧ t8 = .int .i64 (s : Int) ∧ t7 = .int .i64 ((i : Int) - (pos zs n s : Int))) (fun _ t => S - (intOf t).toNat)
      case atStart =>
        have h0 : 0 < S := by
          have h1 := pos_srcs zs n
          rw [HSS.out] at h1
          rcases Nat.eq_zero_or_pos S with e | e
          · rw [e] at h1; simp only [pos] at h1; omega
          · exact e
        exact ⟨0, h0, Nat.zero_le _, rfl, by simp [pos]⟩
      case round =>
        obtain ⟨s, hs, hps, rfl, rfl⟩ := hrel
        have hsi : (s : Int) < (S : Int) := by omega
        have x0 := HKP.out.cell (H.out.2 s (by rw [counts_length, HSS.out]; exact hs))
        rw [counts_at zs n (by rw [HSS.out]; exact hs)] at x0
        have hcl := cnt_le zs n s
        have hm1 := pos_mono1 zs n s
        have HCN : Hid ((cnt zs n s : Int) = (pos zs n (s + 1) : Int) - (pos zs n s : Int)) := Lib.hid (by unfold cnt; omega)
        by_cases hin : i < pos zs n (s + 1)
        · have hnt : (i : Int) - (pos zs n s : Int) < (cnt zs n s : Int) := by have := HCN.out; omega
          have he := ref_eq zs n hlt hps hin
          have hpl := pos_le zs n s
          have y := cells2_at (fillR (ref zs n) n i) i (by rw [fillR_length]; exact hlt)
          rw [fillR_at (ref zs n) hlt] at y
          have y0 : wo.cell? ⟨q, i * 2, none⟩ = some (.int .u32 0) := (HBL.out.cell _).trans y.1
          have y1 : wo.cell? ⟨q, i * 2 + 1, none⟩ = some (.int .u32 0) := (HBL.out.cell _).trans y.2
          have z0 := HBL.out.free (i * 2)
          have z1 := HBL.out.free (i * 2 + 1)
          have hii : (i : Int) < (n : Int) := by omega
          have HN : Hid (Blk ((wo.setCell ⟨q, i * 2, none⟩ (.int .u32 (s : Int))).setCell ⟨q, i * 2 + 1, none⟩ (.int .u32 ((i : Int) - (pos zs n s : Int)))) q 44 (cells2 (fillR (ref zs n) n (i + 1))) ∧ Kept w ((wo.setCell ⟨q, i * 2, none⟩ (.int .u32 (s : Int))).setCell ⟨q, i * 2 + 1, none⟩ (.int .u32 ((i : Int) - (pos zs n s : Int))))) := by
            have hle : w.heap.size ≤ q := by have := HQ.out; omega
            refine Lib.hid ⟨?_, (HKP.out.setCell hle _).setCell hle _⟩
            have h1 := (HBL.out.set (i * 2) (.int .u32 ((ref zs n i).1 : Int))).set (i * 2 + 1) (.int .u32 ((ref zs n i).2 : Int))
            rw [cells2_set _ i (ref zs n i) (by rw [fillR_length]; exact hlt), fillR_set (ref zs n) hlt] at h1
            rw [he] at h1
            have e2 : (((i - pos zs n s : Nat) : Nat) : Int) = (i : Int) - (pos zs n s : Int) := by omega
            simp only [e2] at h1
            exact h1
          have hS2 : S ≤ 4097 := hS
          clear y he HCN hin
          generalize cnt zs n s = cc at *
          generalize pos zs n s = ps at *
          go_wp2_with fail
          have HRR : Hid (∃ r : Nat, r ≤ n ∧ Value.int .i64 ((i : Int) + 1) = .int .i64 (r : Int) ∧ Blk ((wo.setCell ⟨q, i * 2, none⟩ (.int .u32 (s : Int))).setCell ⟨q, i * 2 + 1, none⟩ (.int .u32 ((i : Int) - (ps : Int)))) q 44 (cells2 (fillR (ref zs n) n r)) ∧ Kept w ((wo.setCell ⟨q, i * 2, none⟩ (.int .u32 (s : Int))).setCell ⟨q, i * 2 + 1, none⟩ (.int .u32 ((i : Int) - (ps : Int))))) := Lib.hid ⟨i + 1, by omega, by go_num, HN.out⟩
          go_roundw
          case rel => first | exact HRR.out | ((repeat apply Exists.intro); exact ⟨HRR.out, rfl⟩)
          case measure => simp [intOf]; omega
        · have hyt : (cnt zs n s : Int) ≤ (i : Int) - (pos zs n s : Int) := by have := HCN.out; omega
          have hs1 : s + 1 < S := by
            have h1 := pos_srcs zs n
            rw [HSS.out] at h1
            rcases Nat.lt_or_ge (s + 1) S with e | e
            · exact e
            · have := pos_mono zs n e; omega
          have HRR : Hid (∃ r : Nat, r < S ∧ pos zs n r ≤ i ∧ Value.int .i64 ((s : Int) + 1) = .int .i64 (r : Int) ∧ Value.int .i64 ((i : Int) - (pos zs n s : Int) - (cnt zs n s : Int)) = .int .i64 ((i : Int) - (pos zs n r : Int))) := Lib.hid ⟨s + 1, hs1, by omega, by go_num, by have e := HCN.out; rw [e]; congr 1; omega⟩
          have hpl := pos_le zs n s
          clear hin hm1 HCN
          generalize cnt zs n s = cc at *
          generalize pos zs n s = ps at *
          go_wp2_with fail
          go_round
          case rel => first | exact HRR.out | ((repeat apply Exists.intro); exact ⟨HRR.out, rfl⟩)
          case measure => simp [intOf]; omega
    · obtain rfl : i = n := by omega
      have HBL := Lib.hid hbl
      have HKP := Lib.hid hkp
      clear hbl hkp
      go_wp2_with fail
      go_ret
      exact ⟨by rw [HQ.out]; rfl, by rw [HQ.out]; exact HBL.out, HKP.out⟩

/-! ### targets -/
def tgtOf (ls : List Int) (n i : Nat) : Int := if ls.getD i 0 < 0 then -1 else ls.getD i 0 % (n : Int)
def TgtOk (w : World) (ls : List Int) (n : Nat) (e : Ending) (w' : World) : Prop :=
  e = .returned (.slice (some ⟨w.heap.size, 0, none⟩) n n) ∧ IntAt w' w.heap.size ((List.range n).map (tgtOf ls n)) ∧ Kept w w'
theorem tgt_lt {ls : List Int} {n i : Nat} (hn : 1 ≤ n) : tgtOf ls n i < (n : Int) ∧ -1 ≤ tgtOf ls n i := by
  unfold tgtOf
  split
  · omega
  · have h1 := Int.emod_lt_of_pos (ls.getD i 0) (show (0 : Int) < (n : Int) by omega)
    have h2 := Int.emod_nonneg (ls.getD i 0) (show (n : Int) ≠ 0 by omega)
    omega

set_option maxRecDepth 100000 in
set_option maxHeartbeats 4000000 in
theorem targetsC (A : Option Addr) (n c : Nat) (ls : List Int) (w : World) (h : Ints .i32 w A n ls) (hb : ∀ j, j < n → -2147483648 ≤ ls.getD j 0 ∧ ls.getD j 0 ≤ 2147483647) (hn : n ≤ 4096) :
    Calls Tryd.prog 10 #[.slice A n c] w (TgtOk w ls n) := by
  obtain ⟨C, hC, hmk⟩ := makeInts n (by omega)
  have HC := Lib.hid hC
  have H := Lib.hid h
  have HB := Lib.hid hb
  clear hC h hb
  go_enter Tryd.func10, Tryd.ntmps10
  go_wp2_with fail
  generalize hq : w.heap.size = q at *
  have HQ := Lib.hid hq
  clear hq
  have HST : Hid (Blk (w.alloc (.cells C 3)) q 3 (fillV (fun i => .int .i64 (tgtOf ls n i)) (.int .i64 0) n 0) ∧ Kept w (w.alloc (.cells C 3))) := by
    refine Lib.hid ⟨?_, (Kept.refl _).alloc _⟩
    rw [← HQ.out]
    exact blkMade HC.out _
  generalize w.alloc (.cells C 3) = wa at *
  clear hmk HC
  go_loopw [5] (fun t wr => ∃ k : Nat, k ≤ n ∧ t = .int .i64 (k : Int) ∧ Blk wr q 3 (fillV (fun i => .int .i64 (tgtOf ls n i)) (.int .i64 0) n k) ∧ Kept w wr) (fun t _ => n - (intOf t).toNat)
  case atStart => exact ⟨0, by omega, rfl, HST.out.1, HST.out.2⟩
  case round =>
    obtain ⟨k, hk, rfl, hbl, hkp⟩ := hrel
    by_cases hlt : k < n
    · obtain ⟨b, off, rfl, hb, hc⟩ := H.out.2 (by omega)
      have x0 := hkp.cell (hc k hlt)
      obtain ⟨l0, l1⟩ := HB.out k hlt
      have hki : (k : Int) < (n : Int) := by omega
      have y0 : wr.cell? ⟨q, k, none⟩ = some (.int .i64 0) := (hbl.cell k).trans (fillV_at _ _ hlt)
      have z0 := hbl.free k
      have nb : b < q := by have := HQ.out; omega
      have HN : Hid (Blk (wr.setCell ⟨q, k, none⟩ (.int .i64 (tgtOf ls n k))) q 3 (fillV (fun i => .int .i64 (tgtOf ls n i)) (.int .i64 0) n (k + 1)) ∧ Kept w (wr.setCell ⟨q, k, none⟩ (.int .i64 (tgtOf ls n k)))) := by
        have h1 := hbl.set k (.int .i64 (tgtOf ls n k))
        rw [fillV_set (fun i => Value.int .i64 (tgtOf ls n i)) (.int .i64 0) hlt] at h1
        exact Lib.hid ⟨h1, hkp.setCell (by show w.heap.size ≤ q; have := HQ.out; omega) _⟩
      clear hc hbl hkp
      by_cases hneg : ls.getD k 0 < 0
      · have e : tgtOf ls n k = -1 := by unfold tgtOf; rw [if_pos hneg]
        rw [e] at HN
        clear e
        generalize ls.getD k 0 = lz at *
        go_wp2_with fail
        have HRR : Hid (∃ r : Nat, r ≤ n ∧ Value.int .i64 ((k : Int) + 1) = .int .i64 (r : Int) ∧ Blk (wr.setCell ⟨q, k, none⟩ (.int .i64 (-1))) q 3 (fillV (fun i => .int .i64 (tgtOf ls n i)) (.int .i64 0) n r) ∧ Kept w (wr.setCell ⟨q, k, none⟩ (.int .i64 (-1)))) := Lib.hid ⟨k + 1, by omega, by go_num, HN.out⟩
        go_roundw
        case rel => first | exact HRR.out | ((repeat apply Exists.intro); exact ⟨HRR.out, rfl⟩)
        case measure => simp [intOf]; omega
      · have e : tgtOf ls n k = ls.getD k 0 % (n : Int) := by unfold tgtOf; rw [if_neg hneg]
        rw [e] at HN
        clear e
        have hz : ((n : Int) == 0) = false := by simp; omega
        generalize ls.getD k 0 = lz at *
        have m1 := Int.emod_lt_of_pos lz (show (0 : Int) < (n : Int) by omega)
        have m2 := Int.emod_nonneg lz (show (n : Int) ≠ 0 by omega)
        go_wp2_with fail
        have HRR : Hid (∃ r : Nat, r ≤ n ∧ Value.int .i64 ((k : Int) + 1) = .int .i64 (r : Int) ∧ Blk (wr.setCell ⟨q, k, none⟩ (.int .i64 (lz % (n : Int)))) q 3 (fillV (fun i => .int .i64 (tgtOf ls n i)) (.int .i64 0) n r) ∧ Kept w (wr.setCell ⟨q, k, none⟩ (.int .i64 (lz % (n : Int))))) := Lib.hid ⟨k + 1, by omega, by go_num, HN.out⟩
        go_roundw
        case rel => first | exact HRR.out | ((repeat apply Exists.intro); exact ⟨HRR.out, rfl⟩)
        case measure => simp [intOf]; omega
    · obtain rfl : k = n := by omega
      have HBL := Lib.hid hbl
      have HKP := Lib.hid hkp
      clear hbl hkp
      go_wp2_with fail
      go_ret
      exact ⟨by rw [HQ.out]; rfl, by rw [HQ.out]; exact IntAt.of_fill HBL.out, HKP.out⟩
end Go.Proofs.YticcbjgjjmmbcaaDoor.arr
