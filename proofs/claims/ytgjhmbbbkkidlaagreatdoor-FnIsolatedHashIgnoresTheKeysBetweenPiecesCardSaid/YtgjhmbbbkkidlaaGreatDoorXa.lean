/-
  The law's gates: sizes and shapes.
  Conditions: the rows are readable.
-/
import Derived.LoopTactic
import Derived.Test.YtgjhmbbbkkidlaaGreatDoorVk
namespace Go.Proofs.YtgjhmbbbkkidlaaGreatDoor.hash
open Go.ChangeShapes Go.WideShapes Go.ChangeAt Go.RowKit
open Go.Proofs.YtgjhmbbbkkidlaaGreatDoor.kit
def OneB (w : World) (v : Value) (l : List Int) : Prop := ∃ a c, v = .slice a l.length c ∧ Row w a l.length c (l.map byte)
/-- a slice of slices of bytes in memory -/
def Rows8 (w : World) (A : Option Addr) (n : Nat) (ls : List (List Int)) : Prop :=
  ls.length = n ∧ ∃ vs : Nat → Value, (∀ i, i < n → OneB w (vs i) (ls.getD i [])) ∧ (0 < n → ∃ b off, A = some ⟨b, off, none⟩ ∧ b < w.heap.size ∧ ∀ i, i < n → w.cell? ⟨b, off + i, none⟩ = some (vs i))
theorem Rows8.kept {w w2 : World} {A : Option Addr} {n : Nat} {ls : List (List Int)} (h : Rows8 w A n ls) (hk : Kept w w2) : Rows8 w2 A n ls :=
  ⟨h.1, by
    obtain ⟨vs, h1, h2⟩ := h.2
    refine ⟨vs, fun i hi => ?_, fun h0 => ?_⟩
    · obtain ⟨a, c, e, r⟩ := h1 i hi
      exact ⟨a, c, e, r.kept hk⟩
    · obtain ⟨b, off, e, hlt, hc⟩ := h2 h0
      exact ⟨b, off, e, Nat.lt_of_lt_of_le hlt hk.size, fun i hi => hk.cell (hc i hi)⟩⟩
/-- what the first gate promises -/
structure Small (path : ByteArray) (n : Nat) (ls : List (List Int)) (n1 n2 n3 n4 : Nat) : Prop where
  sp : path.size ≤ 1048576
  sn : n ≤ 1048576
  sl : ∀ i, i < n → (ls.getD i []).length ≤ 1048576
  s1 : n1 ≤ 1048576
  s2 : n2 ≤ 1048576
  s3 : n3 ≤ 1048576
  s4 : n4 ≤ 1048576
set_option maxRecDepth 100000 in
set_option maxHeartbeats 2000000 in
theorem gate_calls (path : ByteArray) (A : Option Addr) (n cap : Nat) (ls : List (List Int)) (B1 B2 B3 B4 : Option Addr) (n1 n2 n3 n4 c1 c2 c3 c4 : Nat) (w : World) (h : Rows8 w A n ls) :
    Calls Tryz.prog 4 #[.string path, .slice A n cap, .slice B1 n1 c1, .slice B2 n2 c2, .slice B3 n3 c3, .slice B4 n4 c4] w fun e w' => (∃ b, e = .returned (.bool b) ∧ (b = true → Small path n ls n1 n2 n3 n4)) ∧ w' = w := by
  obtain ⟨hlen, vs, hvs, hrow⟩ := h
  go_enter Tryz.func4, Tryz.ntmps4
  go_wp2
  all_goals try (go_ret; exact ⟨⟨false, rfl, fun h => by cases h⟩, rfl⟩)
  go_loopw [13, 14] (fun t13 t14 wr => ∃ (i tot : Nat), i ≤ n ∧ tot ≤ 1048576 ∧ t13 = .int .i64 (tot : Int) ∧ t14 = .int .i64 (i : Int) ∧ (∀ j, j < i → (ls.getD j []).length ≤ 1048576) ∧ wr = w) (fun _ t _ => n - natOf t)
  case atStart =>
    exact ⟨0, path.size + n, Nat.zero_le _, by omega, by rw [Int.natCast_add], rfl, fun j hj => absurd hj (by omega), rfl⟩
  case round =>
    obtain ⟨i, tot, hi, htot, rfl, rfl, hj, rfl⟩ := hrel
    by_cases hlt : i < n
    · obtain ⟨b, off, rfl, _, hc⟩ := hrow (by omega)
      obtain ⟨a, c, ev, hr⟩ := hvs i hlt
      have hci := hc i hlt
      rw [ev] at hci
      have HJ := Lib.hid hj
      clear hj hvs hrow hc
      generalize hll : (ls.getD i []).length = L at *
      have HL := Lib.hid hll
      clear hll
      go_wp2
      all_goals try (go_ret; exact ⟨⟨false, rfl, fun h => by cases h⟩, rfl⟩)
      refine ⟨⟨i + 1, tot + L, by omega, by omega, by rw [Int.natCast_add], by rw [Int.natCast_add]; rfl, fun j hj => ?_, trivial⟩, ?_⟩
      · by_cases e : j = i
        · subst e
          rw [HL.out]
          omega
        · exact HJ.out j (by omega)
      · simp only [natOf]
        omega
    · obtain rfl : i = n := by omega
      have HJ := Lib.hid hj
      clear hj hvs hrow
      go_wp2
      all_goals try (go_ret; exact ⟨⟨false, rfl, fun h => by cases h⟩, rfl⟩)
      go_ret
      exact ⟨⟨true, rfl, fun _ => ⟨by omega, by omega, HJ.out, by omega, by omega, by omega, by omega⟩⟩, rfl⟩
set_option maxRecDepth 100000 in
set_option maxHeartbeats 2000000 in
theorem parts_calls (A : Option Addr) (n cap base : Nat) (ls : List (List Int)) (w : World) (h : Rows8 w A n ls) (hn : n ≤ 1048576) (hb : base ≤ 16777216) (hl : ∀ i, i < n → (ls.getD i []).length ≤ 1048576) :
    Calls Tryz.prog 5 #[.slice A n cap, .int .i64 (base : Int)] w fun e w' => (∃ r : Int, e = .returned (.int .i64 r)) ∧ w' = w := by
  obtain ⟨hlen, vs, hvs, hrow⟩ := h
  go_enter Tryz.func5, Tryz.ntmps5
  go_wp2
  go_loopw [5, 6] (fun t5 t6 wr => ∃ (i tot : Nat), i ≤ n ∧ tot ≤ 1073741824 ∧ t5 = .int .i64 (tot : Int) ∧ t6 = .int .i64 (i : Int) ∧ wr = w) (fun _ t _ => n - natOf t)
  case atStart =>
    exact ⟨0, base + 24 * n, Nat.zero_le _, by omega, by rw [Int.natCast_add, Int.natCast_mul]; rfl, rfl, rfl⟩
  case round =>
    obtain ⟨i, tot, hi, htot, rfl, rfl, rfl⟩ := hrel
    by_cases hlt : i < n
    · obtain ⟨b, off, rfl, _, hc⟩ := hrow (by omega)
      obtain ⟨a, c, ev, hr⟩ := hvs i hlt
      have hci := hc i hlt
      rw [ev] at hci
      have hL := hl i hlt
      clear hvs hrow hc hl
      generalize (ls.getD i []).length = L at *
      go_wp2
      · refine ⟨⟨i + 1, tot + L, by omega, by omega, by rw [Int.natCast_add], by rw [Int.natCast_add]; rfl, trivial⟩, ?_⟩
        simp only [natOf]
        omega
      · go_ret
        exact ⟨⟨_, rfl⟩, rfl⟩
    · clear hvs hrow hl
      go_wp2
      go_ret
      exact ⟨⟨_, rfl⟩, rfl⟩
def ShapeR (m : Nat) (w : World) (e : Ending) (w' : World) : Prop := (∃ b, e = .returned (.bool b) ∧ (b = true → 0 < m)) ∧ w' = w
theorem shape_no (m : Nat) (w : World) : ShapeR m w (.returned (.bool false)) w := ⟨⟨false, rfl, fun h => by cases h⟩, rfl⟩
set_option maxRecDepth 100000 in
set_option maxHeartbeats 2000000 in
theorem shape_calls (A B : Option Addr) (n m c d : Nat) (xs ys : List Int) (w : World) (h : Row w A n c (xs.map (Value.int .u32))) (k : Row w B m d (ys.map (Value.int .u8))) (hn : n ≤ 1048576) (hm : m ≤ 1048576) :
    Calls Tryz.prog 6 #[.slice A n c, .slice B m d] w (ShapeR m w) := by
  have hx : xs.length = n := by simpa using h.1
  have hy : ys.length = m := by simpa using k.1
  have HR := Lib.hid h
  have KR := Lib.hid k
  have HX := Lib.hid hx
  have HY := Lib.hid hy
  clear h k hx hy
  by_cases hm1 : m < 1
  · go_enter Tryz.func6, Tryz.ntmps6
    go_wp2
    go_ret
    exact shape_no _ _
  by_cases hnm : n = m
  · subst hnm
    obtain ⟨ba, oa, rfl, _, hca⟩ := HR.out.2.2.2.2 (by omega)
    obtain ⟨bb, ob, rfl, _, hcb⟩ := KR.out.2.2.2.2 (by omega)
    have CA : Hid (∀ i, i < n → w.cell? ⟨ba, oa + i, none⟩ = some (.int .u32 (xs.getD i 0))) := Lib.hid (fun i hi => by
      rw [hca i (by rw [List.length_map, HX.out]; exact hi)]
      simp [List.getD, List.getElem?_eq_getElem (show i < xs.length by rw [HX.out]; exact hi)])
    have CB : Hid (∀ i, i < n → w.cell? ⟨bb, ob + i, none⟩ = some (.int .u8 (ys.getD i 0))) := Lib.hid (fun i hi => by
      rw [hcb i (by rw [List.length_map, HY.out]; exact hi)]
      simp [List.getD, List.getElem?_eq_getElem (show i < ys.length by rw [HY.out]; exact hi)])
    clear hca hcb
    go_enter Tryz.func6, Tryz.ntmps6
    go_wp2
    go_loopw [6] (fun t6 wr => ∃ i : Nat, i ≤ n ∧ t6 = .int .i64 (i : Int) ∧ wr = w) (fun t _ => n - natOf t)
    case atStart => exact ⟨0, Nat.zero_le _, rfl, rfl⟩
    case round =>
      obtain ⟨i, hi, rfl, rfl⟩ := hrel
      by_cases hlt : i < n
      · have ca := CA.out i hlt
        have cb := CB.out i hlt
        generalize xs.getD i 0 = x at *
        generalize ys.getD i 0 = y at *
        go_wp2
        all_goals try (go_ret; exact shape_no _ _)
        all_goals
          refine ⟨⟨i + 1, by omega, by rw [Int.natCast_add]; rfl, trivial⟩, ?_⟩
          simp only [natOf]
          omega
      · go_wp2
        go_ret
        exact ⟨⟨true, rfl, fun _ => by omega⟩, rfl⟩
  · have hne : ((n : Int) != (m : Int)) = true := by
      have : ¬ (n : Int) = (m : Int) := by omega
      simpa using this
    go_enter Tryz.func6, Tryz.ntmps6
    go_wp2
    go_ret
    exact shape_no _ _
end Go.Proofs.YtgjhmbbbkkidlaaGreatDoor.hash
