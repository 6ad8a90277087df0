/-
  Contracts of the n011_88 helpers over this seat's program: the guards, the maker of a symbol map, the root, the expressions and the printer.
  Conditions: at most 65536 symbols, links to earlier symbols alone.
-/
import Derived.Test.YtijbmfmcpcpcaaaDoorRPlan69
namespace Go.Proofs.YtijbmfmcpcpcaaaDoorR.r88
open Go.ChangeShapes Go.WideShapes Go.ChangeAt Go.RowKit
open kit chain arena lk syms unb plan69

theorem unb24 (w : World) (gp ge g : Nat) (bk : Nat → Nat) (S : Nat) (σ : Tab) (d : Nat) (p r : Ref) (h : Arena w g bk S σ) (hI : Inv w) (hz : ∀ s, s < S → bk s ≠ 0) (hc : Chain S σ d p r) (hP : Prn w gp g S bk) (hE : Idn w ge S bk p) :
    Calls Tryd.prog 24 #[.pointer (some ⟨gp, 0, none⟩), exprV 33 ge] w (Asked w g bk S σ d p r (evalB (symAt σ r))) := by
  have HC := Lib.hid (fun W (k : Kept w W) => (unb49 W gp ge g bk S σ d p r (h.kept k) (hI.kept k) hz hc (hP.kept k) (hE.kept k)).mono (fun e w' => Asked.of_kept k))
  unfold exprV at HC ⊢
  clear h hI hz hc hP hE
  generalize evalB (symAt σ r) = bb at *
  go_enter Tryd.func24, Tryd.ntmps24
  go_wp2_with fail
  refine (HC.out _ ((Kept.refl _).alloc _)).mono ?_
  rintro e w' ⟨rfl, hA, hT⟩
  have HA := Lib.hid hA
  have HT := Lib.hid hT
  clear hA hT
  go_wp2_with fail
  go_ret
  exact ⟨rfl, HA.out, HT.out⟩
theorem new19 (w : World) (g S : Nat) (bk : Nat → Nat) (hb : ∀ s, s < S → bk s < w.heap.size) :
    Calls Tryd.prog 19 #[mapV g S] w fun e w' => e = .returned (.pointer (some ⟨w.heap.size + 1, 0, none⟩)) ∧ Prn w' (w.heap.size + 1) g S bk ∧ Kept w w' := by
  unfold mapV
  go_enter Tryd.func19, Tryd.ntmps19
  go_wp2_with fail
  go_ret
  refine ⟨rfl, ⟨?_, fun s hs => by have := hb s hs; omega⟩, ((Kept.refl _).alloc _).alloc _⟩
  have h1 := heap_alloc_new (w.alloc (.cells #[.slice (some ⟨g, 0, none⟩) S S] 31)) (.cells (Tryd.zeroCells123.setIfInBounds 0 (.slice (some ⟨g, 0, none⟩) S S)) 123)
  have h2 : (w.alloc (.cells #[.slice (some ⟨g, 0, none⟩) S S] 31)).heap.size = w.heap.size + 1 := by simp
  rw [h2] at h1
  rw [cell_of_row _ _ 0 _ 123 (0, 0) h1, Array.getElem?_setIfInBounds_self_of_lt (of_decide_eq_true (by kernel_rfl))]
theorem no49 (w : World) (gp : Nat) (u : TypeId) (x : Value) (ha : ∀ W, (Instr.typeAssert (.iface u x) 39 33 true).run Tryd.prog W = .ok (.tuple #[.pointer none, .bool false]) W) :
    Calls Tryd.prog 49 #[.pointer (some ⟨gp, 0, none⟩), .agg #[.iface u x, .int .i32 0]] w fun e w' => e = .returned (.bool false) ∧ Kept w w' := by
  go_enter Tryd.func49, Tryd.ntmps49
  go_wp2_with fail
  go_ret
  exact ⟨rfl, (Kept.refl _).alloc _⟩
theorem no24 (w : World) (gp : Nat) (u : TypeId) (x : Value) (ha : ∀ W, (Instr.typeAssert (.iface u x) 39 33 true).run Tryd.prog W = .ok (.tuple #[.pointer none, .bool false]) W) :
    Calls Tryd.prog 24 #[.pointer (some ⟨gp, 0, none⟩), .agg #[.iface u x, .int .i32 0]] w fun e w' => e = .returned (.bool false) ∧ Kept w w' := by
  have HC := Lib.hid (fun W => no49 W gp u x ha)
  clear ha
  go_enter Tryd.func24, Tryd.ntmps24
  go_wp2_with fail
  refine (HC.out _).mono ?_
  rintro e w' ⟨rfl, hk⟩
  have HK := Lib.hid hk
  clear hk
  go_wp2_with fail
  go_ret
  exact ⟨rfl, ((Kept.refl _).alloc _).trans HK.out⟩
theorem as132 (W : World) (v : Value) : (Instr.typeAssert (.iface 132 v) 39 33 true).run Tryd.prog W = .ok (.tuple #[.pointer none, .bool false]) W := by kernel_rfl

/-- a slice of strings that came in, cell by cell -/
def Strs (w : World) (A : Option Addr) (n : Nat) (ss : List ByteArray) : Prop :=
  ss.length = n ∧ (0 < n → ∃ b off, A = some ⟨b, off, none⟩ ∧ b < w.heap.size ∧ ∀ i, i < n → w.cell? ⟨b, off + i, none⟩ = some (.string (ss.getD i ByteArray.empty)))
theorem Strs.kept {w w2 : World} {A : Option Addr} {n : Nat} {ss : List ByteArray} (h : Strs w A n ss) (hk : Kept w w2) : Strs w2 A n ss :=
  ⟨h.1, fun h0 => by
    obtain ⟨b, off, e, hlt, hc⟩ := h.2 h0
    exact ⟨b, off, e, Nat.lt_of_lt_of_le hlt hk.size, fun i hi => hk.cell (hc i hi)⟩⟩
theorem Strs.of_row {w : World} {a : Option Addr} {n c : Nat} {ss : List ByteArray} (h : Row w a n c (ss.map Value.string)) : Strs w a n ss := by
  have hl : ss.length = n := by simpa using h.1
  refine ⟨hl, fun h0 => ?_⟩
  obtain ⟨b, off, e, hb, hc⟩ := h.2.2.2.2 h0
  refine ⟨b, off, e, hb, fun i hi => ?_⟩
  have hi2 : i < ss.length := by omega
  have := hc i (by simpa using hi2)
  rw [this]; simp [hi2]
theorem Ints.of_row {k : IntKind} {w : World} {a : Option Addr} {n c : Nat} {zs : List Int} (h : Row w a n c (zs.map (Value.int k))) : Ints k w a n zs := by
  have hl : zs.length = n := by simpa using h.1
  refine ⟨hl, fun h0 => ?_⟩
  obtain ⟨b, off, e, hb, hc⟩ := h.2.2.2.2 h0
  refine ⟨b, off, e, hb, fun i hi => ?_⟩
  have hi2 : i < zs.length := by omega
  have := hc i (by simpa using hi2)
  rw [this]; simp [hi2]
theorem strRow {w : World} {x : Addr} {len cap : Nat} {zs : List ByteArray} (hl : len ≤ cap) (hm : cap ≤ maxLen) (hz : zs.length = cap)
    (hc : ∀ i, i < zs.length → w.cell? (x.add i) = some (.string (zs.getD i ByteArray.empty))) : Row w (some x) len cap ((zs.take len).map Value.string) := by
  refine ⟨by simp; omega, hl, hm, fun h => (by cases h), fun hn => ?_⟩
  obtain ⟨b, off, spot⟩ := x
  have h0 := hc 0 (by omega)
  have hspot : spot = none := by simpa [Addr.add] using World.cell?_spot h0
  subst hspot
  refine ⟨b, off, rfl, by simpa [Addr.add] using World.block_lt_of_cell? w _ h0, fun i hi => ?_⟩
  have hi2 : i < len := by simp at hi; omega
  have hi3 : i < zs.length := by omega
  have h1 := hc i hi3
  rw [addOff] at h1
  rw [h1]
  simp [hi3]

def AnyBool (w : World) (e : Ending) (w' : World) : Prop := ∃ b : Bool, e = .returned (.bool b) ∧ w = w'

set_option maxRecDepth 100000 in
set_option maxHeartbeats 2000000 in
theorem bytes14 (a0 : Option Addr) (n c0 : Nat) (ss : List ByteArray) (a1 : Option Addr) (n1 c1 : Nat) (a2 : Option Addr) (n2 c2 : Nat) (q s : Int) (w : World) (h : Strs w a0 n ss) (m0 : n ≤ 9223372036854775807) (m1 : n1 ≤ 9223372036854775807) (m2 : n2 ≤ 9223372036854775807) :
    Calls Tryd.prog 14 #[.slice a0 n c0, .slice a1 n1 c1, .slice a2 n2 c2, .int .i32 q, .int .u8 s] w (AnyBool w) := by
  have H := Lib.hid h
  clear h
  by_cases h0 : 1048576 < n
  · go_enter Tryd.func14, Tryd.ntmps14
    go_wp2_with fail
    go_ret
    exact ⟨_, rfl, rfl⟩
  go_enter Tryd.func14, Tryd.ntmps14
  go_wp2_with fail
  go_loop [11, 12] (fun x t => ∃ (k : Nat) (y : Int), k ≤ n ∧ t = .int .i64 (k : Int) ∧ x = .int .i64 y) (fun _ t => n - (intOf t).toNat)
  case atStart => exact ⟨0, _, by omega, rfl, rfl⟩
  case round =>
    obtain ⟨k, y, hk, rfl, rfl⟩ := hrel
    by_cases hlt : k < n
    · obtain ⟨b, off, rfl, hb, hc⟩ := H.out.2 (by omega)
      have x0 := hc k hlt
      have hki : (k : Int) < (n : Int) := by omega
      clear hc
      generalize ss.getD k ByteArray.empty = s0 at *
      go_wp2_with fail
      all_goals
        first
        | (go_ret; exact ⟨_, rfl, rfl⟩)
        | (go_round
           case rel => first | exact ⟨k + 1, _, by omega, by go_num, rfl⟩ | ((repeat apply Exists.intro); exact ⟨⟨k + 1, _, by omega, by go_num, rfl⟩, rfl⟩)
           case measure => simp [intOf]; omega)
    · go_wp2_with fail
      all_goals (go_ret; exact ⟨_, rfl, rfl⟩)

/-- what the guard says when it says yes -/
def FitOk (n n1 n2 : Nat) (q : Int) (zs : List Int) : Prop := n1 = n ∧ n2 = n ∧ 1 ≤ n ∧ n ≤ 65536 ∧ 0 ≤ q ∧ q < (n : Int) ∧ ∀ j, j < n → -1 ≤ zs.getD j (-1) ∧ zs.getD j (-1) < (j : Int)
def Fits (w : World) (n n1 n2 : Nat) (q : Int) (zs : List Int) (e : Ending) (w' : World) : Prop := ∃ b : Bool, e = .returned (.bool b) ∧ w = w' ∧ (b = true → FitOk n n1 n2 q zs)

set_option maxRecDepth 100000 in
set_option maxHeartbeats 4000000 in
theorem fit15 (a0 : Option Addr) (n c0 : Nat) (ss : List ByteArray) (a1 : Option Addr) (n1 c1 : Nat) (a2 : Option Addr) (n2 c2 : Nat) (zs : List Int) (q : Int) (w : World) (h : Strs w a0 n ss) (h2 : Ints .i32 w a2 n2 zs)
    (hb : ∀ j, -2147483648 ≤ zs.getD j (-1) ∧ zs.getD j (-1) ≤ 2147483647) (q0 : -2147483648 ≤ q) (q1 : q ≤ 2147483647) (m0 : n ≤ 9223372036854775807) (m1 : n1 ≤ 9223372036854775807) (m2 : n2 ≤ 9223372036854775807) :
    Calls Tryd.prog 15 #[.slice a0 n c0, .slice a1 n1 c1, .slice a2 n2 c2, .int .i32 q] w (Fits w n n1 n2 q zs) := by
  have H := Lib.hid h
  have H2 := Lib.hid h2
  have HB := Lib.hid hb
  clear h h2 hb
  by_cases h0 : 65536 < n
  · go_enter Tryd.func15, Tryd.ntmps15
    go_wp2_with fail
    go_ret
    exact ⟨false, rfl, rfl, fun h => by cases h⟩
  by_cases h1 : 65536 < n1
  · go_enter Tryd.func15, Tryd.ntmps15
    go_wp2_with fail
    go_ret
    exact ⟨false, rfl, rfl, fun h => by cases h⟩
  by_cases h2 : 65536 < n2
  · go_enter Tryd.func15, Tryd.ntmps15
    go_wp2_with fail
    go_ret
    exact ⟨false, rfl, rfl, fun h => by cases h⟩
  go_enter Tryd.func15, Tryd.ntmps15
  go_wp2_with fail
  go_loop [9, 10] (fun x t => ∃ (k : Nat) (y : Int), k ≤ n ∧ t = .int .i64 (k : Int) ∧ x = .int .i64 y) (fun _ t => n - (intOf t).toNat)
  case atStart => exact ⟨0, _, by omega, rfl, rfl⟩
  case round =>
    obtain ⟨k, y, hk, rfl, rfl⟩ := hrel
    by_cases hlt : k < n
    · obtain ⟨b, off, rfl, hb, hc⟩ := H.out.2 (by omega)
      have x0 := hc k hlt
      have hki : (k : Int) < (n : Int) := by omega
      clear hc
      generalize ss.getD k ByteArray.empty = s0 at *
      go_wp2_with fail
      all_goals
        first
        | (go_ret; exact ⟨false, rfl, rfl, fun h => by cases h⟩)
        | (go_round
           case rel => first | exact ⟨k + 1, _, by omega, by go_num, rfl⟩ | ((repeat apply Exists.intro); exact ⟨⟨k + 1, _, by omega, by go_num, rfl⟩, rfl⟩)
           case measure => simp [intOf]; omega)
    · obtain rfl : k = n := by omega
      by_cases hy : 1048576 < y
      · go_wp2_with fail
        go_ret
        exact ⟨false, rfl, rfl, fun h => by cases h⟩
      by_cases hk0 : k = 0
      · subst hk0
        have z0 : ((0 : Int) == 0) = true := rfl
        go_wp2_with fail
        go_ret
        exact ⟨false, rfl, rfl, fun h => by cases h⟩
      have e0 : ((k : Int) == 0) = false := by simp; omega
      by_cases hn1 : n1 = k
      · have e1 : ((n1 : Int) != (k : Int)) = false := by simp [hn1]
        by_cases hn2 : n2 = k
        · have e2 : ((n2 : Int) != (k : Int)) = false := by simp [hn2]
          have HN1 := Lib.hid hn1
          have HN2 := Lib.hid hn2
          clear hn1 hn2
          by_cases hq0 : q < 0
          · go_wp2_with fail
            go_ret
            exact ⟨false, rfl, rfl, fun h => by cases h⟩
          by_cases hq1 : (k : Int) ≤ q
          · go_wp2_with fail
            go_ret
            exact ⟨false, rfl, rfl, fun h => by cases h⟩
          go_wp2_with fail
          go_loop [12] (fun t => ∃ j : Nat, j ≤ k ∧ t = .int .i64 (j : Int) ∧ Hid (∀ i, i < j → -1 ≤ zs.getD i (-1) ∧ zs.getD i (-1) < (i : Int))) (fun t => k - (intOf t).toNat)
          case atStart => exact ⟨0, by omega, rfl, Lib.hid (fun i hi => absurd hi (by omega))⟩
          case round =>
            obtain ⟨j, hj, rfl, HJ⟩ := hrel
            by_cases hjl : j < k
            · obtain ⟨b2, o2, rfl, hb2, hc2⟩ := H2.out.2 (by have := HN2.out; omega)
              have x0 := hc2 j (by have := HN2.out; omega)
              obtain ⟨v0, v1⟩ := HB.out j
              have hjn : (j : Int) < (n2 : Int) := by have := HN2.out; omega
              have HNX : -1 ≤ zs.getD j (-1) → zs.getD j (-1) < (j : Int) → Hid (∀ i, i < j + 1 → -1 ≤ zs.getD i (-1) ∧ zs.getD i (-1) < (i : Int)) := fun p1 p2 => Lib.hid (fun i hi => by
                rcases Nat.lt_or_ge i j with hh | hh
                · exact HJ.out i hh
                · obtain rfl : i = j := by omega
                  exact ⟨p1, p2⟩)
              have HNX2 := Lib.hid HNX
              clear hc2 HNX
              generalize zs.getD j (-1) = x at *
              by_cases p1 : x < -1
              · go_wp2_with fail
                go_ret
                exact ⟨false, rfl, rfl, fun h => by cases h⟩
              by_cases p2 : (j : Int) ≤ x
              · go_wp2_with fail
                go_ret
                exact ⟨false, rfl, rfl, fun h => by cases h⟩
              have HN := HNX2.out (by omega) (by omega)
              have HRR : Hid (∃ r : Nat, r ≤ k ∧ Value.int .i64 ((j : Int) + 1) = .int .i64 (r : Int) ∧ Hid (∀ i, i < r → -1 ≤ zs.getD i (-1) ∧ zs.getD i (-1) < (i : Int))) := Lib.hid ⟨j + 1, by omega, by go_num, HN⟩
              clear HNX2
              go_wp2_with fail
              go_round
              case rel => first | exact HRR.out | ((repeat apply Exists.intro); exact ⟨HRR.out, rfl⟩)
              case measure => simp [intOf]; omega
            · obtain rfl : j = k := by omega
              go_wp2_with fail
              go_ret
              exact ⟨true, rfl, rfl, fun _ => ⟨HN1.out, HN2.out, by omega, by omega, by omega, by omega, HJ.out⟩⟩
        · have e2 : ((n2 : Int) != (k : Int)) = true := by simp; omega
          go_wp2_with fail
          go_ret
          exact ⟨false, rfl, rfl, fun h => by cases h⟩
      · have e1 : ((n1 : Int) != (k : Int)) = true := by simp; omega
        go_wp2_with fail
        go_ret
        exact ⟨false, rfl, rfl, fun h => by cases h⟩
end Go.Proofs.YtijbmfmcpcpcaaaDoorR.r88
