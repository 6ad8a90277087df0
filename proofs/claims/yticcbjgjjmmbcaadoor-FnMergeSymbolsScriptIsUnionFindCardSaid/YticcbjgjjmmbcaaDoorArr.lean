/-
  Contracts of n011_236's helpers over this seat's program: slices that came in, rows that a loop fills, the cut into sources, the refs.
  Conditions: at most 4096 symbols and 4096 sizes.
-/
import Derived.Test.YticcbjgjjmmbcaaDoorArena
import Derived.Test.YticcbjgjjmmbcaaDoorCut
import Derived.LoopTactic
import Derived.OwnWalk
import Derived.Deep.OwnRows
import Derived.Lib.LazyBuf
import Derived.Outline
namespace Go.Proofs.YticcbjgjjmmbcaaDoor.arr
open Go.ChangeShapes Go.WideShapes Go.ChangeAt Go.RowKit
open kit chain arena cut

/-- a slice of integers, cell by cell -/
def Ints (k : IntKind) (w : World) (A : Option Addr) (n : Nat) (zs : List Int) : Prop :=
  zs.length = n ∧ (0 < n → ∃ b off, A = some ⟨b, off, none⟩ ∧ b < w.heap.size ∧ ∀ i, i < n → w.cell? ⟨b, off + i, none⟩ = some (.int k (zs.getD i 0)))
theorem Ints.kept {k : IntKind} {w w2 : World} {A : Option Addr} {n : Nat} {zs : List Int} (h : Ints k w A n zs) (hk : Kept w w2) : Ints k w2 A n zs :=
  ⟨h.1, fun h0 => by
    obtain ⟨b, off, e, hlt, hc⟩ := h.2 h0
    exact ⟨b, off, e, Nat.lt_of_lt_of_le hlt hk.size, fun i hi => hk.cell (hc i hi)⟩⟩
theorem Ints.of_row {k : IntKind} {w : World} {a : Option Addr} {n c : Nat} {zs : List Int} (h : Row w a n c (zs.map (Value.int k))) : Ints k w a n zs := by
  have hl : zs.length = n := by simpa using h.1
  refine ⟨hl, fun h0 => ?_⟩
  obtain ⟨b, off, e, hb, hc⟩ := h.2.2.2.2 h0
  refine ⟨b, off, e, hb, fun i hi => ?_⟩
  have hi2 : i < zs.length := by omega
  have := hc i (by simpa using hi2)
  rw [this]; simp [hi2]
/-- a block of ints, its first cells known -/
def IntAt (w : World) (b : Nat) (xs : List Int) : Prop := b < w.heap.size ∧ ∀ i, i < xs.length → w.cell? ⟨b, i, none⟩ = some (.int .i64 (xs.getD i 0))
theorem IntAt.kept {w w2 : World} {b : Nat} {xs : List Int} (h : IntAt w b xs) (hk : Kept w w2) : IntAt w2 b xs := ⟨Nat.lt_of_lt_of_le h.1 hk.size, fun i hi => hk.cell (h.2 i hi)⟩
theorem IntAt.turn {w w2 : World} {b : Nat} {xs : List Int} {bk : Nat → Nat} {S : Nat} (h : IntAt w b xs) (hk : Turn w w2 bk S) (hn : ∀ s, s < S → bk s ≠ b) : IntAt w2 b xs := ⟨Nat.lt_of_lt_of_le h.1 hk.size, fun i hi => hk.cell (h.2 i hi) hn⟩

/-- a row that a loop fills: the first k places hold F, the rest Z -/
def fillV (F : Nat → Value) (Z : Value) (n k : Nat) : List Value := (List.range n).map fun j => if j < k then F j else Z
section
variable (F : Nat → Value) (Z : Value) {n k : Nat}
theorem fillV_at (h : k < n) : (fillV F Z n k)[k]? = some Z := by simp [fillV, h]
theorem fillV_lt {j : Nat} (h : k ≤ n) (hj : j < k) : (fillV F Z n k)[j]? = some (F j) := by
  simp only [fillV, List.getElem?_map, List.getElem?_range (show j < n by omega), Option.map_some, if_pos hj]
theorem fillV_set (h : k < n) : (fillV F Z n k).set k (F k) = fillV F Z n (k + 1) := by
  apply List.ext_getElem?
  intro j
  by_cases hj : k = j
  · subst hj
    rw [List.getElem?_set_self (by simpa [fillV] using h)]
    simp [fillV, h]
  · rw [List.getElem?_set_ne hj]
    simp only [fillV, List.getElem?_map]
    by_cases hjn : j < n
    · rw [List.getElem?_range hjn]
      simp only [Option.map_some]
      by_cases hk : j < k
      · rw [if_pos hk, if_pos (by omega)]
      · rw [if_neg hk, if_neg (by omega)]
    · simp [hjn]
theorem fillV_zero (n : Nat) : fillV F Z n 0 = List.replicate n Z := by
  apply List.ext_getElem?
  intro j
  simp only [fillV, List.getElem?_map, List.getElem?_replicate]
  by_cases h : j < n <;> simp [h]
theorem fillV_full (n : Nat) : fillV F Z n n = (List.range n).map F := by
  apply List.ext_getElem?
  intro j
  simp only [fillV, List.getElem?_map]
  by_cases h : j < n
  · rw [List.getElem?_range h]; simp [h]
  · simp [h]
end
theorem IntAt.of_fill {w : World} {b : Nat} {f : Nat → Int} {n : Nat} (h : Blk w b 3 (fillV (fun i => .int .i64 (f i)) (.int .i64 0) n n)) : IntAt w b ((List.range n).map f) := by
  refine ⟨h.lt, fun i hi => ?_⟩
  have hi2 : i < n := by simpa using hi
  rw [h.cell, fillV_lt _ _ (Nat.le_refl _) hi2]
  simp [hi2]

theorem info3 : (Tryd.prog.info? 3).map (fun i => (i.zero, i.size, i.bytes)) = some (some (.int .i64 0), 1, 8) := by kernel_rfl
/-- make([]int, n) -/
theorem makeInts (n : Nat) (hn : n ≤ 1048576) : ∃ C : Array Value, C.toList = List.replicate n (.int .i64 0) ∧ ∀ w : World, (Instr.makeSlice 29 (.int .i64 (n : Int)) (.int .i64 (n : Int))).run Tryd.prog w = .ok (.slice (some ⟨w.heap.size, 0, none⟩) n n) (w.alloc (.cells C 3)) :=
  ⟨madeCells #[Value.int .i64 0] n, toList_madeCells_one _ n, fun w => run_make_row' (P := Tryd.prog) 29 3 (.int .i64 0) 8 Tryd.underlying29 info3 rfl .i64 .i64 n (by omega) (by omega) w⟩
theorem blkMade {w : World} {C : Array Value} {n : Nat} {Z : Value} {t : TypeId} (h : C.toList = List.replicate n Z) (F : Nat → Value) : Blk (w.alloc (.cells C t)) w.heap.size t (fillV F Z n 0) := by
  have e : C = (fillV F Z n 0).toArray := by rw [← Array.toList_inj, h, fillV_zero]
  rw [e]
  exact Blk.new _ _ _

/-! ### the cut into sources -/
def cutV (zs : List Int) (n k : Nat) : List Value := (List.range k).map fun j => Value.int .i64 (cnt zs n j : Int)
theorem cutV_succ (zs : List Int) (n k : Nat) : cutV zs n k ++ [.int .i64 (cnt zs n k : Int)] = cutV zs n (k + 1) := by
  simp [cutV, List.range_succ]
theorem cut_hi {zs : List Int} {n k : Nat} (h0 : 0 ≤ zs.getD k (n : Int)) (h : (n : Int) - (pos zs n k : Int) < zs.getD k (n : Int)) : (cnt zs n k : Int) = (n : Int) - (pos zs n k : Int) ∧ (pos zs n (k + 1) : Int) = (pos zs n k : Int) + (cnt zs n k : Int) := by
  have := pos_le zs n k
  unfold cnt
  simp only [pos]
  omega
theorem cut_lo {zs : List Int} {n k : Nat} (h0 : 0 ≤ zs.getD k (n : Int)) (h : zs.getD k (n : Int) ≤ (n : Int) - (pos zs n k : Int)) : (cnt zs n k : Int) = zs.getD k (n : Int) ∧ (pos zs n (k + 1) : Int) = (pos zs n k : Int) + (cnt zs n k : Int) := by
  have := pos_le zs n k
  unfold cnt
  simp only [pos]
  omega

theorem oneNews (w : World) (v : Value) (t : TypeId) : ∀ j u, [v][j]? = some u → (w.alloc (.cells #[v] t)).cell? ((⟨w.heap.size, 0, none⟩ : Addr).add j) = some u := by
  intro j u h
  cases j with
  | zero =>
    have := (Blk.new w t [v]).cell 0
    have e : (⟨w.heap.size, 0, none⟩ : Addr).add 0 = ⟨w.heap.size, 0, none⟩ := by simp [Addr.add]
    rw [e, this]; exact h
  | succ j => simp at h
theorem one1 (x : Int) : ∀ u ∈ [Value.int .i64 x], u.oneCell' = true := by simp [Value.oneCell']
theorem keptGrown {w a b : World} {q : Nat} (h : Kept w a) (g : a.grownBy b (some q)) (hq : w.heap.size ≤ q) : Kept w b :=
  ⟨g.os.trans h.os, g.tape.trans h.tape, g.output.trans h.output, Nat.le_trans h.size g.size, fun k hk => (g.block k (Nat.lt_of_lt_of_le hk h.size) (fun e => by injection e with e; omega)).trans (h.block k hk)⟩

/-- what zzCounts leaves -/
def Cuts (w : World) (zs : List Int) (n : Nat) (e : Ending) (w' : World) : Prop :=
  ∃ c, e = .returned (.slice (some ⟨w.heap.size, 0, none⟩) (srcs zs n) c) ∧ IntAt w' w.heap.size (counts zs n) ∧ Kept w w'
theorem cuts_of {w w' : World} {zs : List Int} {n S c B : Nat} (hB : B = w.heap.size) (h : w'.ownsRow B 3 1 (.slice (some ⟨w.heap.size, 0, none⟩) S c) S (cutV zs n S)) (hS : S = srcs zs n) (hk : Kept w w') : Cuts w zs n (.returned (.slice (some ⟨w.heap.size, 0, none⟩) S c)) w' := by
  subst hS
  refine ⟨c, rfl, ?_, hk⟩
  have hr := Row.of_own h
  refine ⟨?_, fun i hi => ?_⟩
  · rcases h.2 with ⟨e, _⟩ | ⟨g, cap, cur, e, _, hh, _⟩
    · injection e with e; cases e
    · injection e with e
      have : w.heap.size = g := by injection e with e; injection e
      rw [this]
      apply Classical.byContradiction
      intro hn
      rw [Array.getElem?_eq_none (by omega)] at hh
      cases hh
  · have hi2 : i < srcs zs n := by rw [counts_length] at hi; exact hi
    obtain ⟨b, off, e, hb, hc⟩ := hr.2.2.2.2 (by omega)
    injection e with e
    injection e with e1 e2
    have := hc i (by simpa [cutV] using hi2)
    rw [← e1, ← e2, Nat.zero_add] at this
    rw [this, counts_at zs n hi2]
    simp [cutV]

set_option maxRecDepth 100000 in
set_option maxHeartbeats 4000000 in
theorem countsC (A : Option Addr) (m c n : Nat) (zs : List Int) (w : World) (h : Ints .u16 w A m zs) (hz : ∀ j, j < m → 0 ≤ zs.getD j 0 ∧ zs.getD j 0 ≤ 65535) (hm : m ≤ 4096) (hn : n ≤ 4096) :
    Calls Tryd.prog 12 #[.slice A m c, .int .i64 (n : Int)] w (Cuts w zs n) := by
  obtain ⟨cur, hcur, hmk⟩ := make0 (T := 29) (E := 3) Tryd.underlying29 info3 (m + 1) ((m : Int) + 1) (by omega) (by omega) (by unfold maxLen; omega)
  obtain ⟨i0, hi, hz0, hz1, hz2⟩ := info_parts info3
  have HLEN := Lib.hid h.1
  have H := Lib.hid h
  have HZ := Lib.hid hz
  have HCUR := Lib.hid hcur
  clear h hz hcur hz0 hz2
  go_enter Tryd.func12, Tryd.ntmps12
  go_wp2_with fail
  generalize hq : w.heap.size = q at *
  have HQ := Lib.hid hq
  clear hq
  have HST : Hid ((w.alloc (.cells cur 3)).ownsRow q 3 1 (.slice (some ⟨q, 0, none⟩) 0 (m + 1)) 0 (cutV zs n 0) ∧ Kept w (w.alloc (.cells cur 3))) := by
    refine Lib.hid ⟨⟨rfl, Or.inr ⟨q, m + 1, cur, rfl, Nat.le_refl _, ?_, by omega, by unfold maxLen; omega, HCUR.out, by simp [cutV]⟩⟩, (Kept.refl _).alloc _⟩
    rw [← HQ.out]
    exact heap_alloc_new w _
  generalize w.alloc (.cells cur 3) = wa at *
  clear hmk HCUR
  go_loopw [5, 6, 7, 8] (fun t5 t6 t7 _ wr => ∃ k : Nat, k ≤ m ∧ t7 = .int .i64 (k : Int) ∧ t6 = .int .i64 (pos zs n k : Int) ∧ t5 = .slice (some ⟨q, 0, none⟩) k (m + 1) ∧ wr.ownsRow q 3 1 (.slice (some ⟨q, 0, none⟩) k (m + 1)) k (cutV zs n k) ∧ Kept w wr) (fun _ _ t _ _ => m - (intOf t).toNat)
  case atStart => exact ⟨0, by omega, rfl, rfl, rfl, HST.out.1, HST.out.2⟩
  case round =>
    obtain ⟨k, hk, rfl, rfl, rfl, hown, hkp⟩ := hrel
    have hpl := pos_le zs n k
    by_cases hlt : k < m
    · obtain ⟨b, off, rfl, hb, hc⟩ := H.out.2 (by omega)
      have x0 := hkp.cell (hc k hlt)
      obtain ⟨z0, z1⟩ := HZ.out k hlt
      have hki : (k : Int) < (m : Int) := by omega
      have hfit : k + 1 ≤ m + 1 := by omega
      have hzz : zs.getD k (n : Int) = zs.getD k 0 := by
        have : k < zs.length := by rw [HLEN.out]; exact hlt
        simp [this]
      have HCI := Lib.hid (fun (hh : (n : Int) - (pos zs n k : Int) < zs.getD k 0) => cut_hi (zs := zs) (n := n) (k := k) (by rw [hzz]; exact z0) (by rw [hzz]; exact hh))
      have HCO := Lib.hid (fun (hh : zs.getD k 0 ≤ (n : Int) - (pos zs n k : Int)) => cut_lo (zs := zs) (n := n) (k := k) (by rw [hzz]; exact z0) (by rw [hzz]; exact hh))
      have HZZ := Lib.hid hzz
      have HOW := Lib.hid hown
      have HKP := Lib.hid hkp
      clear hc hown hkp hzz
      have hqs : q < wr.heap.size := by
        rcases HOW.out.2 with ⟨e, _⟩ | ⟨g, cap, cur, e, _, hh, _⟩
        · injection e with e; cases e
        · injection e with e
          have e3 : q = g := by injection e with e; injection e
          rw [e3]
          apply Classical.byContradiction
          intro hn
          rw [Array.getElem?_eq_none (by omega)] at hh
          cases hh
      by_cases hhi : (n : Int) - (pos zs n k : Int) < zs.getD k 0
      · obtain ⟨e1, e2⟩ := HCI.out hhi
        have HE1 := Lib.hid e1
        have HE2 := Lib.hid e2
        clear e1 e2 HCI HCO
        generalize zs.getD k 0 = x at *
        go_wp2_with (at_builtin; refine wpList_append_fits _ rfl _ _ 29 rfl q 3 i0 1 Tryd.underlying29 hi hz1 q k (m + 1) (cutV zs n k) rfl (HOW.out.alloc _) ⟨wr.heap.size, 0, none⟩ 1 1 [.int .i64 ((n : Int) - (pos zs n k : Int))] rfl rfl (oneNews wr _ 3) (one1 _) hfit ?_)
        intro w2 hown2 hgr2
        rw [← HE1.out, cutV_succ] at hown2
        have hk2 := keptGrown (HKP.out.alloc _) hgr2 (by have := HQ.out; omega)
        rw [← HE1.out]
        have HRR : Hid (∃ r : Nat, r ≤ m ∧ Value.int .i64 ((k : Int) + 1) = .int .i64 (r : Int) ∧ Value.int .i64 ((pos zs n k : Int) + (cnt zs n k : Int)) = .int .i64 (pos zs n r : Int) ∧ Value.slice (some ⟨q, 0, none⟩) (k + 1) (m + 1) = .slice (some ⟨q, 0, none⟩) r (m + 1) ∧ w2.ownsRow q 3 1 (.slice (some ⟨q, 0, none⟩) r (m + 1)) r (cutV zs n r) ∧ Kept w w2) := Lib.hid ⟨k + 1, by omega, by go_num, by rw [HE2.out], rfl, hown2, hk2⟩
        have hcl := cnt_le zs n k
        clear hown2 hgr2 hk2
        generalize cnt zs n k = cc at *
        go_wp2_with fail
        go_roundw
        case rel => first | exact HRR.out | ((repeat apply Exists.intro); exact ⟨HRR.out, rfl⟩)
        case measure => simp [intOf]; omega
      · obtain ⟨e1, e2⟩ := HCO.out (by omega)
        rw [HZZ.out] at e1
        have HE1 := Lib.hid e1
        have HE2 := Lib.hid e2
        clear e1 e2 HCI HCO
        generalize zs.getD k 0 = x at *
        go_wp2_with (at_builtin; refine wpList_append_fits _ rfl _ _ 29 rfl q 3 i0 1 Tryd.underlying29 hi hz1 q k (m + 1) (cutV zs n k) rfl (HOW.out.alloc _) ⟨wr.heap.size, 0, none⟩ 1 1 [.int .i64 x] rfl rfl (oneNews wr _ 3) (one1 _) hfit ?_)
        intro w2 hown2 hgr2
        rw [← HE1.out, cutV_succ] at hown2
        have hk2 := keptGrown (HKP.out.alloc _) hgr2 (by have := HQ.out; omega)
        rw [← HE1.out]
        have HRR : Hid (∃ r : Nat, r ≤ m ∧ Value.int .i64 ((k : Int) + 1) = .int .i64 (r : Int) ∧ Value.int .i64 ((pos zs n k : Int) + (cnt zs n k : Int)) = .int .i64 (pos zs n r : Int) ∧ Value.slice (some ⟨q, 0, none⟩) (k + 1) (m + 1) = .slice (some ⟨q, 0, none⟩) r (m + 1) ∧ w2.ownsRow q 3 1 (.slice (some ⟨q, 0, none⟩) r (m + 1)) r (cutV zs n r) ∧ Kept w w2) := Lib.hid ⟨k + 1, by omega, by go_num, by rw [HE2.out], rfl, hown2, hk2⟩
        have hcl := cnt_le zs n k
        clear hown2 hgr2 hk2
        generalize cnt zs n k = cc at *
        go_wp2_with fail
        go_roundw
        case rel => first | exact HRR.out | ((repeat apply Exists.intro); exact ⟨HRR.out, rfl⟩)
        case measure => simp [intOf]; omega
    · obtain rfl : k = m := by omega
      have HOW := Lib.hid hown
      have HKP := Lib.hid hkp
      clear hown hkp
      have hfit : k + 1 ≤ k + 1 := Nat.le_refl _
      by_cases hlast : pos zs n k < n
      · have HS : Hid (srcs zs n = k + 1) := Lib.hid (by unfold srcs; rw [HLEN.out, if_pos hlast])
        have HE1 : Hid ((cnt zs n k : Int) = (n : Int) - (pos zs n k : Int)) := by
          have h1 := pos_last zs n
          rw [HLEN.out] at h1
          refine Lib.hid ?_
          unfold cnt
          rw [h1]
          omega
        go_wp2_with (at_builtin; refine wpList_append_fits _ rfl _ _ 29 rfl q 3 i0 1 Tryd.underlying29 hi hz1 q k (k + 1) (cutV zs n k) rfl (HOW.out.alloc _) ⟨wr.heap.size, 0, none⟩ 1 1 [.int .i64 ((n : Int) - (pos zs n k : Int))] rfl rfl (oneNews wr _ 3) (one1 _) hfit ?_)
        intro w2 hown2 hgr2
        rw [← HE1.out, cutV_succ] at hown2
        have HK2 := Lib.hid (keptGrown (HKP.out.alloc _) hgr2 (by have := HQ.out; omega))
        have HO2 := Lib.hid hown2
        clear hown2 hgr2
        go_wp2_with fail
        go_ret
        have hq := HQ.out
        subst hq
        exact cuts_of rfl HO2.out HS.out.symm HK2.out
      · have HS : Hid (srcs zs n = k) := Lib.hid (by unfold srcs; rw [HLEN.out, if_neg hlast])
        go_wp2_with fail
        go_ret
        have hq := HQ.out
        subst hq
        exact cuts_of rfl HOW.out HS.out.symm HKP.out
end Go.Proofs.YticcbjgjjmmbcaaDoor.arr
