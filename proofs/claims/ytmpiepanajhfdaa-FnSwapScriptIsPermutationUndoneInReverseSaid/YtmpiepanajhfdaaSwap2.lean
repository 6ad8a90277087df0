/-
  More contracts of the charAndCountArray helpers over this seat's program, and the plain law of swaps: a script of swaps permutes, and undone in reverse restores.
  Conditions: at most 65536 elements.
-/
import Derived.Test.YtmpiepanajhfdaaSwap
import Derived.Laws.Entries
import Derived.Laws.Tables
namespace Go.Proofs.Ytmpiepanajhfdaa.swap
open Go.ChangeShapes Go.WideShapes Go.ChangeAt Go.RowKit
open kit

/-! ### the plain law -/
def sw (ps : List Nat) (i j : Nat) : List Nat := (ps.set i (ps.getD j 0)).set j (ps.getD i 0)
def tau (i j k : Nat) : Nat := if k = i then j else if k = j then i else k
theorem sw_length (ps : List Nat) (i j : Nat) : (sw ps i j).length = ps.length := by simp [sw]
theorem sw_at (ps : List Nat) (i j k : Nat) (hi : i < ps.length) (hj : j < ps.length) : (sw ps i j).getD k 0 = ps.getD (tau i j k) 0 := by
  unfold sw tau
  simp only [List.getD_eq_getElem?_getD, List.getElem?_set, List.length_set]
  by_cases h1 : j = k
  · subst h1
    by_cases h2 : j = i
    · subst h2; simp [hj]
    · simp [hj, h2]
  · by_cases h2 : i = k
    · subst h2
      simp [h1, hi]
    · have h3 : ¬ k = i := fun e => h2 e.symm
      have h4 : ¬ k = j := fun e => h1 e.symm
      simp [h1, h2, h3, h4]
theorem tau_tau (i j k : Nat) : tau i j (tau i j k) = k := by
  unfold tau
  by_cases h1 : k = i
  · subst h1
    by_cases h2 : j = k
    · simp [h2]
    · simp [h2]
  · by_cases h2 : k = j
    · subst h2; simp [h1]
    · simp [h1, h2]
theorem tau_lt {i j k n : Nat} (hi : i < n) (hj : j < n) (hk : k < n) : tau i j k < n := by
  unfold tau; split
  · exact hj
  · split <;> assumption
theorem ext_getD {xs ys : List Nat} (hl : xs.length = ys.length) (h : ∀ k, k < xs.length → xs.getD k 0 = ys.getD k 0) : xs = ys := by
  apply List.ext_getElem hl
  intro k h1 h2
  have := h k h1
  simpa [h1, h2] using this
theorem sw_sw (ps : List Nat) (i j : Nat) (hi : i < ps.length) (hj : j < ps.length) : sw (sw ps i j) i j = ps := by
  apply ext_getD (by simp [sw_length])
  intro k _
  rw [sw_at _ _ _ _ (by simpa [sw_length] using hi) (by simpa [sw_length] using hj), sw_at _ _ _ _ hi hj, tau_tau]

/-- the numbers from 0 on, shuffled -/
def Perm (n : Nat) (ps : List Nat) : Prop := ps.length = n ∧ (∀ k, k < n → ps.getD k 0 < n) ∧ ∀ a b, a < n → b < n → ps.getD a 0 = ps.getD b 0 → a = b
theorem perm_range (n : Nat) : Perm n (List.range n) := by
  refine ⟨by simp, fun k hk => ?_, fun a b ha hb h => ?_⟩
  · simp [hk]
  · simpa [ha, hb] using h
theorem perm_sw {n : Nat} {ps : List Nat} (h : Perm n ps) {i j : Nat} (hi : i < n) (hj : j < n) : Perm n (sw ps i j) := by
  obtain ⟨h1, h2, h3⟩ := h
  refine ⟨by rw [sw_length, h1], fun k hk => ?_, fun a b ha hb e => ?_⟩
  · rw [sw_at _ _ _ _ (by omega) (by omega)]
    exact h2 _ (tau_lt hi hj hk)
  · rw [sw_at _ _ _ _ (by omega) (by omega), sw_at _ _ _ _ (by omega) (by omega)] at e
    have := h3 _ _ (tau_lt hi hj ha) (tau_lt hi hj hb) e
    have h4 := congrArg (tau i j) this
    rwa [tau_tau, tau_tau] at h4

/-- an index of the script, brought into range -/
def pos (zs : List Int) (n t : Nat) : Nat := (zs.getD t 0 % (n : Int)).toNat
theorem pos_lt (zs : List Int) {n : Nat} (t : Nat) (hn : 1 ≤ n) : pos zs n t < n := by
  unfold pos
  have h1 := Int.emod_nonneg (zs.getD t 0) (show (n : Int) ≠ 0 by omega)
  have h2 := Int.emod_lt_of_pos (zs.getD t 0) (show (0 : Int) < (n : Int) by omega)
  omega
theorem pos_cast (zs : List Int) {n : Nat} (t : Nat) (hn : 1 ≤ n) : zs.getD t 0 % (n : Int) = (pos zs n t : Int) := by
  unfold pos
  have h1 := Int.emod_nonneg (zs.getD t 0) (show (n : Int) ≠ 0 by omega)
  omega
/-- the array behind t swaps -/
def fwd (zs : List Int) (n : Nat) : Nat → List Nat
  | 0 => List.range n
  | t + 1 => sw (fwd zs n t) (pos zs n (2 * t)) (pos zs n (2 * t + 1))
theorem fwd_perm (zs : List Int) {n : Nat} (hn : 1 ≤ n) (t : Nat) : Perm n (fwd zs n t) := by
  induction t with
  | zero => exact perm_range n
  | succ t ih => exact perm_sw ih (pos_lt _ _ hn) (pos_lt _ _ hn)
theorem fwd_back (zs : List Int) {n : Nat} (hn : 1 ≤ n) (t : Nat) : sw (fwd zs n (t + 1)) (pos zs n (2 * t)) (pos zs n (2 * t + 1)) = fwd zs n t := by
  have h := (fwd_perm zs hn t).1
  exact sw_sw _ _ _ (by rw [h]; exact pos_lt _ _ hn) (by rw [h]; exact pos_lt _ _ hn)

/-- which tags have been seen among the first k -/
def seen (ps : List Nat) (k n : Nat) : List Value := (List.range n).map fun c => Value.bool ((ps.take k).contains c)
theorem seen_zero (ps : List Nat) (n : Nat) : seen ps 0 n = List.replicate n (.bool false) := by
  unfold seen
  apply List.ext_getElem?
  intro i
  simp [List.getElem?_replicate]
  by_cases h : i < n <;> simp [h]
theorem take_snocN (l : List Nat) (k : Nat) (h : k < l.length) : l.take (k + 1) = l.take k ++ [l.getD k 0] := by
  rw [List.take_succ_eq_append_getElem h]; simp [h]
theorem seen_at {n : Nat} {ps : List Nat} (h : Perm n ps) {k : Nat} (hk : k < n) : (seen ps k n)[ps.getD k 0]? = some (.bool false) := by
  obtain ⟨h1, h2, h3⟩ := h
  have hlt := h2 k hk
  have hno : (ps.take k).contains (ps.getD k 0) = false := by
    rw [List.contains_eq_any_beq, List.any_eq_false]
    intro x hx e
    obtain ⟨a, ha, hax⟩ := List.mem_iff_getElem.1 hx
    simp at ha
    have e2 : ps.getD a 0 = ps.getD k 0 := by
      have e1 : ps.getD k 0 = x := by simpa using e
      rw [e1, ← hax]
      simp [show a < ps.length by omega]
    have := h3 a k (by omega) hk e2
    omega
  unfold seen
  rw [List.getElem?_map, List.getElem?_range hlt]
  simp only [Option.map_some, hno]
theorem seen_set {n : Nat} {ps : List Nat} (h : Perm n ps) {k : Nat} (hk : k < n) : (seen ps k n).set (ps.getD k 0) (.bool true) = seen ps (k + 1) n := by
  have h1 := h.1
  have hlt := h.2.1 k hk
  unfold seen
  apply List.ext_getElem?
  intro i
  rw [take_snocN ps k (by omega)]
  by_cases hi : ps.getD k 0 = i
  · rw [hi] at hlt ⊢
    rw [List.getElem?_set_self (by simpa using hlt), List.getElem?_map, List.getElem?_range hlt]
    simp
  · rw [List.getElem?_set_ne hi, List.getElem?_map, List.getElem?_map]
    by_cases hin : i < n
    · rw [List.getElem?_range hin]
      have : ¬ i = ps.getD k 0 := fun e => hi e.symm
      simp only [Option.map_some, List.contains_eq_any_beq, List.any_append, List.any_cons, List.any_nil, Bool.or_false]
      have h5 : (i == ps.getD k 0) = false := by simpa using this
      rw [h5, Bool.or_false]
    · simp [hin]

/-! ### the helpers -/
def Took (w : World) (v : Value) (e : Ending) (w' : World) : Prop := e = .returned v ∧ w = w'

theorem mod28 (x : Int) (n : Nat) (w : World) (h0 : 1 ≤ n) (hn : n ≤ 65536) (hx1 : -9223372036854775808 ≤ x) (hx2 : x ≤ 9223372036854775807) :
    Calls Try.prog 28 #[.int .i64 x, .int .i64 (n : Int)] w fun e w' => e = .returned (.int .i64 (x % (n : Int))) ∧ w = w' := by
  have hne : ((n : Int) == 0) = false := by simp; omega
  by_cases hx : 0 ≤ x
  · have h1 := Int.emod_nonneg x (show (n : Int) ≠ 0 by omega)
    go_enter Try.func28, Try.ntmps28
    go_wp2
    go_ret
    exact ⟨rfl, rfl⟩
  · have e1 : x.tmod (n : Int) = x % (n : Int) ∨ (x.tmod (n : Int) < 0 ∧ x.tmod (n : Int) + (n : Int) = x % (n : Int)) := by
      have h1 := Int.emod_nonneg x (show (n : Int) ≠ 0 by omega)
      have h3 := Int.emod_lt_of_pos x (show (0 : Int) < (n : Int) by omega)
      have h2 := Int.tmod_eq_emod (a := x) (b := (n : Int))
      by_cases hd : (n : Int) ∣ x
      · left
        rw [h2]; simp [hd]
      · right
        rw [h2]; simp [hd, hx]
        omega
    have l1 : -65536 ≤ x.tmod (n : Int) := by
      have := Int.emod_nonneg x (show (n : Int) ≠ 0 by omega)
      rcases e1 with e | ⟨_, e⟩ <;> omega
    have l2 : x.tmod (n : Int) < 65536 := by
      have := Int.emod_lt_of_pos x (show (0 : Int) < (n : Int) by omega)
      rcases e1 with e | ⟨_, e⟩ <;> omega
    have E1 := Lib.hid e1
    have hpos : x.tmod (n : Int) = x % (n : Int) → ¬ x.tmod (n : Int) < 0 := fun e => by
      have := Int.emod_nonneg x (show (n : Int) ≠ 0 by omega)
      omega
    have HP := Lib.hid hpos
    clear e1 hpos
    generalize hq : x.tmod (n : Int) = q at *
    generalize hr : x % (n : Int) = r at *
    have HQ := Lib.hid hr
    clear hr
    go_enter Try.func28, Try.ntmps28
    go_wp2
    all_goals
      go_ret
      refine ⟨?_, rfl⟩
      rcases E1.out with e | ⟨e, e2⟩
      · first | (have := HP.out e; omega) | (rw [e]; rfl)
      · first | (rw [← e2]; rfl) | omega

def Made (w : World) (n : Nat) (e : Ending) (w2 : World) : Prop :=
  ∃ cs : List Value, e = .returned (.slice (some ⟨w.heap.size, 0, none⟩) n n) ∧ cs.length = n * 3 ∧ Blk w2 w.heap.size 80 cs ∧ Kept w w2

theorem info80 : (Try.prog.info? 80).map (fun i => (i.zero, i.size, i.bytes)) = some (some (.agg #[.string ⟨#[]⟩, .int .i32 0, .int .u8 0]), 3, 24) := by kernel_rfl

theorem new25 (n : Nat) (w : World) (hn : n ≤ 65536) : Calls Try.prog 25 #[.int .i64 (n : Int)] w (Made w n) := by
  obtain ⟨i, hi, hz, hs, hby⟩ := info_parts info80
  have hmk : ∀ w : World, (Instr.makeSlice 55 (.int .i64 (n : Int)) (.int .i64 (n : Int))).run Try.prog w = .ok (.slice (some ⟨w.heap.size, 0, none⟩) n n) (w.alloc (.cells (madeCells #[.string ⟨#[]⟩, .int .i32 0, .int .u8 0] (n * 3)) 80)) := by
    intro w
    have hb : (i.bytes : Int) * (n : Int) ≤ 281474976710656 := by rw [hby]; omega
    have hr := run_make (P := Try.prog) w 55 80 i _ Try.underlying55 hi hz .i64 .i64 n n (by omega) (by omega) hb (by omega)
    simp only [Int.toNat_natCast, hs] at hr
    exact hr
  have hsz : (madeCells #[Value.string ⟨#[]⟩, .int .i32 0, .int .u8 0] (n * 3)).size = n * 3 := size_madeCells _ _
  have HS := Lib.hid hsz
  clear hsz hz hi hs hby
  generalize madeCells #[Value.string ⟨#[]⟩, .int .i32 0, .int .u8 0] (n * 3) = C at *
  go_enter Try.func25, Try.ntmps25
  go_wp2
  go_ret
  refine ⟨C.toList, rfl, by simpa using HS.out, ?_, (Kept.refl _).alloc _⟩
  have := heap_alloc_new w (.cells C 80)
  simpa [Blk] using this

def Put (w : World) (g : Nat) (cs : List Value) (k : Nat) (x y : Int) (e : Ending) (w2 : World) : Prop :=
  e = .returned (.tuple #[]) ∧ Blk w2 g 80 (((cs.set (k * 3) (.string ⟨#[]⟩)).set (k * 3 + 1) (.int .i32 x)).set (k * 3 + 2) (.int .u8 y)) ∧ Only w w2 g

set_option maxHeartbeats 1000000 in
theorem set26 (w : World) (g n c : Nat) (cs : List Value) (k : Nat) (x y : Int) (h : Blk w g 80 cs) (hl : cs.length = n * 3) (hk : k < n) (hn : n ≤ 65536) :
    Calls Try.prog 26 #[.slice (some ⟨g, 0, none⟩) n c, .int .i64 (k : Int), .string ⟨#[]⟩, .int .i32 x, .int .u8 y] w (Put w g cs k x y) := by
  have c0 : w.cell? ⟨g, k * 3, none⟩ = some (cs[k * 3]'(by omega)) := h.cellD (by omega)
  have c1 : w.cell? ⟨g, k * 3 + 1, none⟩ = some (cs[k * 3 + 1]'(by omega)) := h.cellD (by omega)
  have c2 : w.cell? ⟨g, k * 3 + 2, none⟩ = some (cs[k * 3 + 2]'(by omega)) := h.cellD (by omega)
  have f0 := h.free (k * 3)
  have f1 := h.free (k * 3 + 1)
  have f2 := h.free (k * 3 + 2)
  have i1 : (k : Int) < (n : Int) := by omega
  generalize cs[k * 3]'(by omega) = v0 at *
  generalize cs[k * 3 + 1]'(by omega) = v1 at *
  generalize cs[k * 3 + 2]'(by omega) = v2 at *
  have HB := Lib.hid h
  clear h hl
  go_enter Try.func26, Try.ntmps26
  go_wp2
  go_end0
  exact ⟨rfl, ((HB.out.set _ _).set _ _).set _ _, (((Only.refl w g).set _ _).set _ _).set _ _⟩

theorem swap27 (w : World) (g n c : Nat) (ps : List Nat) (i j : Nat) (h : Blk w g 80 (cellsOf ps)) (hl : ps.length = n) (hi : i < n) (hj : j < n) (hn : n ≤ 65536) :
    Calls Try.prog 27 #[.slice (some ⟨g, 0, none⟩) n c, .int .i64 (i : Int), .int .i64 (j : Int)] w (Swapped w g ps i j) := by
  have HC := Lib.hid (swap w g n c ps i j h hl hi hj hn)
  clear h hl
  go_enter Try.func27, Try.ntmps27
  go_wp2_with fail
  refine HC.out.mono ?_
  rintro e w2 ⟨rfl, h1, h2⟩
  have H1 := Lib.hid h1
  have H2 := Lib.hid h2
  clear h1 h2
  go_wp2
  go_end0
  exact ⟨rfl, H1.out, H2.out⟩

theorem count29 (w : World) (g n c : Nat) (ps : List Nat) (k : Nat) (h : Blk w g 80 (cellsOf ps)) (hl : ps.length = n) (hk : k < n) (hn : n ≤ 65536) :
    Calls Try.prog 29 #[.slice (some ⟨g, 0, none⟩) n c, .int .i64 (k : Int)] w fun e w' => e = .returned (.int .i32 ((ps.getD k 0 : Nat) : Int)) ∧ w = w' := by
  obtain ⟨a0, a1, a2⟩ := cellsOf_at ps k (by omega)
  have c1 : w.cell? ⟨g, k * 3 + 1, none⟩ = some (.int .i32 ((ps.getD k 0 : Nat) : Int)) := by rw [h.cell]; exact a1
  have i1 : (k : Int) < (n : Int) := by omega
  clear h hl a0 a1 a2
  generalize ((ps.getD k 0 : Nat) : Int) = v at *
  go_enter Try.func29, Try.ntmps29
  go_wp2
  go_ret
  exact ⟨rfl, rfl⟩
theorem index30 (w : World) (g n c : Nat) (ps : List Nat) (k : Nat) (h : Blk w g 80 (cellsOf ps)) (hl : ps.length = n) (hk : k < n) (hn : n ≤ 65536) :
    Calls Try.prog 30 #[.slice (some ⟨g, 0, none⟩) n c, .int .i64 (k : Int)] w fun e w' => e = .returned (.int .u8 ((ps.getD k 0 % 256 : Nat) : Int)) ∧ w = w' := by
  obtain ⟨a0, a1, a2⟩ := cellsOf_at ps k (by omega)
  have c1 : w.cell? ⟨g, k * 3 + 2, none⟩ = some (.int .u8 ((ps.getD k 0 % 256 : Nat) : Int)) := by rw [h.cell]; exact a2
  have i1 : (k : Int) < (n : Int) := by omega
  clear h hl a0 a1 a2
  generalize ((ps.getD k 0 % 256 : Nat) : Int) = v at *
  go_enter Try.func30, Try.ntmps30
  go_wp2
  go_ret
  exact ⟨rfl, rfl⟩

/-- the array while it is being filled: the first k elements carry their own numbers -/
def Filled (wr : World) (g n k : Nat) : Prop := ∃ cs : List Value, cs.length = n * 3 ∧ cs.take (k * 3) = cellsOf (List.range k) ∧ Blk wr g 80 cs
theorem cellsOf_app (a b : List Nat) : cellsOf (a ++ b) = cellsOf a ++ cellsOf b := by simp [cellsOf]
theorem take_set3 {α : Type} (cs : List α) (k : Nat) (a b c : α) (h : k * 3 + 3 ≤ cs.length) : (((cs.set (k * 3) a).set (k * 3 + 1) b).set (k * 3 + 2) c).take ((k + 1) * 3) = cs.take (k * 3) ++ [a, b, c] := by
  apply List.ext_getElem?
  intro i
  by_cases h1 : i < k * 3
  · rw [List.getElem?_append_left (by simp; omega)]
    rw [List.getElem?_take_of_lt (by omega), List.getElem?_take_of_lt (by omega)]
    rw [List.getElem?_set_ne (by omega), List.getElem?_set_ne (by omega), List.getElem?_set_ne (by omega)]
  · rw [List.getElem?_append_right (by simp; omega)]
    have hlen : (cs.take (k * 3)).length = k * 3 := by simp; omega
    rw [hlen]
    by_cases h2 : i = k * 3
    · subst h2
      rw [List.getElem?_take_of_lt (by omega), List.getElem?_set_ne (by omega), List.getElem?_set_ne (by omega), List.getElem?_set_self (by omega)]
      simp
    · by_cases h3 : i = k * 3 + 1
      · subst h3
        rw [List.getElem?_take_of_lt (by omega), List.getElem?_set_ne (by omega), List.getElem?_set_self (by simp; omega)]
        simp
      · by_cases h4 : i = k * 3 + 2
        · subst h4
          rw [List.getElem?_take_of_lt (by omega), List.getElem?_set_self (by simp; omega)]
          simp
        · rw [List.getElem?_eq_none (by simp; omega), List.getElem?_eq_none (by simp; omega)]
theorem filled_step {w2 : World} {g n k : Nat} {cs : List Value} (hl : cs.length = n * 3) (ht : cs.take (k * 3) = cellsOf (List.range k)) (hk : k < n)
    (hb : Blk w2 g 80 (((cs.set (k * 3) (.string ⟨#[]⟩)).set (k * 3 + 1) (.int .i32 (k : Int))).set (k * 3 + 2) (.int .u8 ((k % 256 : Nat) : Int)))) : Filled w2 g n (k + 1) := by
  refine ⟨_, by simpa using hl, ?_, hb⟩
  rw [take_set3 _ _ _ _ _ (by omega), ht, List.range_succ, cellsOf_app]
  rfl
theorem filled_end {w : World} {g n : Nat} (h : Filled w g n n) : Blk w g 80 (cellsOf (List.range n)) := by
  obtain ⟨cs, hl, ht, hb⟩ := h
  rw [List.take_of_length_le (by omega)] at ht
  rw [← ht]; exact hb
end Go.Proofs.Ytmpiepanajhfdaa.swap
