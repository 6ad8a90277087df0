/-
  The outlet of sortedCrossChunkExportItems, and the law's small helpers, over this seat's program.
  Conditions: none.
-/
import Derived.Test.YtbnkhpbgibgahaaEr
import Derived.Laws.Tables
namespace Go.Proofs.Ytbnkhpbgibgahaa.es
open Go.ChangeShapes Go.WideShapes Go.ChangeAt Go.RowKit
open kit ms fl rf so

theorem built_graph (A : Option Addr) (n c : Nat) : ∃ G, Try.prog.built 53 [(6, .slice A n c)] = some G ∧ ∃ CS, Try.prog.built 73 [(5, .agg G)] = some CS ∧ CS[16]? = some (.slice A n c) := by
  have h : ((Try.prog.built 53 [(6, .slice A n c)]).bind fun G => (Try.prog.built 73 [(5, .agg G)]).map (fun CS => CS[16]?)) = some (some (.slice A n c)) := by kernel_rfl
  rcases hG : Try.prog.built 53 [(6, .slice A n c)] with _ | G
  · rw [hG] at h; cases h
  · rw [hG] at h
    rcases hC : Try.prog.built 73 [(5, .agg G)] with _ | CS
    · simp only [Option.bind_some, hC] at h; cases h
    · simp only [Option.bind_some, hC, Option.map_some, Option.some.injEq] at h
      exact ⟨G, rfl, CS, hC, h⟩
theorem wpList_build1 {ops : Array Oper} {rest : List Oper} {o : Oper} {a : Act} {w : World} {Q : Exit → Act → World → Prop} (hg : o.guard = none) (t : TypeId) (parts : Array (Nat × Operand)) (ho : o.op = .build t parts)
    (L : List (Nat × Value)) (hL : (parts.map fun (i, x) => (i, a.eval x)).toList = L) (CS : Array Value) (hCS : Try.prog.built t L = some CS) (h : wpList Try.prog ops Q rest (a.put o.dst (.agg CS)) w) : wpList Try.prog ops Q (o :: rest) a w := by
  refine wpList_build hg t parts ho (by rw [hL, hCS]; rfl) ?_
  rw [hL, hCS]
  exact h
theorem out_kept {w W W2 : World} {F : List En} {e : Ending} (hk : Kept w W) (h : Out W F e W2) : Out w F e W2 := by
  obtain ⟨q, c, sp, R, h1, h2, h3, h4, r⟩ := h
  exact ⟨q, c, sp, R, h1, Nat.le_trans hk.size h2, h3, hk.trans h4, r⟩
set_option maxRecDepth 100000 in
set_option maxHeartbeats 8000000 in
theorem zz (w : World) (mb : Nat) (A : Option Addr) (nS cS : Nat) (S : List Int) (F : List En) (hS : Row w A nS cS (S.map (Value.int .u32))) (hM : Rs w mb F) (hF : so.Good S F) (hl : F.length ≤ 65536) (hn : nS ≤ 1048576) :
    Calls Try.prog 12 #[.slice A nS cS, .map (some mb)] w (Out w F) := by
  obtain ⟨G, hG, CS, hCS, h16⟩ := built_graph A nS cS
  have HG := Lib.hid hG
  have HCS := Lib.hid hCS
  have hk : Kept w (w.alloc (.cells CS 73)) := (Kept.refl w).alloc _
  have hc : (w.alloc (.cells CS 73)).cell? ⟨w.heap.size, 16, none⟩ = some (.slice A nS cS) := by
    have := (Blk.new w 73 CS.toList).cell 16
    simp only [Array.toArray_toList] at this
    rw [this]
    simpa using h16
  have HIT := Lib.hid (items (w.alloc (.cells CS 73)) w.heap.size mb A nS cS S F hc (hS.kept hk) (hM.kept hk) hF hl hn)
  have HK := Lib.hid hk
  clear hG hCS h16 hk hc hS hM hF
  go_enter Try.func12, Try.ntmps12
  go_wp2_with (first
    | (refine wpList_build1 rfl 53 _ rfl [(6, .slice A nS cS)] (by kernel_rfl) G HG.out ?_)
    | (refine wpList_build1 rfl 73 _ rfl [(5, .agg G)] (by kernel_rfl) CS HCS.out ?_)
    | (go_at_call 16; refine HIT.out.mono ?_; intro e w3 ho; obtain ⟨q, c, sp, R, rfl, hr⟩ := ho; have HX : Hid (Out w F (.returned (.slice (some ⟨q, 0, none⟩) R.size c)) w3) := Lib.hid (out_kept HK.out ⟨q, c, sp, R, rfl, hr⟩); clear hr))
  go_ret
  exact HX.out

theorem min3 (a b c : Nat) (w : World) : Calls Try.prog 7 #[.int .i64 (a : Int), .int .i64 (b : Int), .int .i64 (c : Int)] w fun e w' => e = .returned (.int .i64 ((min (min a b) c : Nat) : Int)) ∧ w = w' := by
  by_cases h1 : b < a
  · by_cases h2 : c < b
    · obtain ⟨m, hm⟩ : ∃ m, m = min (min a b) c := ⟨_, rfl⟩
      obtain rfl : m = c := by omega
      rw [← hm]
      clear hm
      have i1 : (b : Int) < (a : Int) := by omega
      have i2 : (m : Int) < (b : Int) := by omega
      go_enter Try.func7, Try.ntmps7
      go_wp2_with fail
      go_ret
      exact ⟨rfl, rfl⟩
    · obtain ⟨m, hm⟩ : ∃ m, m = min (min a b) c := ⟨_, rfl⟩
      obtain rfl : m = b := by omega
      rw [← hm]
      clear hm
      have i1 : (m : Int) < (a : Int) := by omega
      have i2 : ¬ (c : Int) < (m : Int) := by omega
      go_enter Try.func7, Try.ntmps7
      go_wp2_with fail
      go_ret
      exact ⟨rfl, rfl⟩
  · by_cases h2 : c < a
    · obtain ⟨m, hm⟩ : ∃ m, m = min (min a b) c := ⟨_, rfl⟩
      obtain rfl : m = c := by omega
      rw [← hm]
      clear hm
      have i1 : ¬ (b : Int) < (a : Int) := by omega
      have i2 : (m : Int) < (a : Int) := by omega
      go_enter Try.func7, Try.ntmps7
      go_wp2_with fail
      go_ret
      exact ⟨rfl, rfl⟩
    · obtain ⟨m, hm⟩ : ∃ m, m = min (min a b) c := ⟨_, rfl⟩
      obtain rfl : m = a := by omega
      rw [← hm]
      clear hm
      have i1 : ¬ (b : Int) < (m : Int) := by omega
      have i2 : ¬ (c : Int) < (m : Int) := by omega
      go_enter Try.func7, Try.ntmps7
      go_wp2_with fail
      go_ret
      exact ⟨rfl, rfl⟩

/-- too big or not -/
def big (a b c : Nat) : Bool := decide (65536 < a) || decide (65536 < b) || decide (65536 < c) || decide (1048576 < 4 * (a + b + c))
set_option maxHeartbeats 2000000 in
theorem tooBig (A B C : Option Addr) (a b c ca cb cc : Nat) (w : World) (ha : a ≤ 1048576) (hb : b ≤ 1048576) (hc : c ≤ 1048576) :
    Calls Try.prog 6 #[.slice A a ca, .slice B b cb, .slice C c cc] w fun e w' => e = .returned (.bool (big a b c)) ∧ w = w' := by
  by_cases h1 : 65536 < a
  · have HB : Hid (big a b c = true) := Lib.hid (by simp [big, h1])
    have i1 : (a : Int) > 65536 := by omega
    go_enter Try.func6, Try.ntmps6
    go_wp2_with fail
    go_ret
    exact ⟨by rw [HB.out]; rfl, rfl⟩
  · have i1 : ¬ (a : Int) > 65536 := by omega
    by_cases h2 : 65536 < b
    · have HB : Hid (big a b c = true) := Lib.hid (by simp [big, h2])
      have i2 : (b : Int) > 65536 := by omega
      go_enter Try.func6, Try.ntmps6
      go_wp2_with fail
      go_ret
      exact ⟨by rw [HB.out]; rfl, rfl⟩
    · have i2 : ¬ (b : Int) > 65536 := by omega
      by_cases h3 : 65536 < c
      · have HB : Hid (big a b c = true) := Lib.hid (by simp [big, h3])
        have i3 : (c : Int) > 65536 := by omega
        go_enter Try.func6, Try.ntmps6
        go_wp2_with fail
        go_ret
        exact ⟨by rw [HB.out]; rfl, rfl⟩
      · have i3 : ¬ (c : Int) > 65536 := by omega
        have HB : Hid (big a b c = decide (4 * ((a : Int) + (b : Int) + (c : Int)) > 1048576)) := Lib.hid (by
          have e : (4 * ((a : Int) + (b : Int) + (c : Int)) > 1048576) ↔ 1048576 < 4 * (a + b + c) := by omega
          unfold big
          rw [decide_eq_false h1, decide_eq_false h2, decide_eq_false h3, Bool.false_or, Bool.false_or, Bool.false_or]
          exact decide_eq_decide.2 e.symm)
        go_enter Try.func6, Try.ntmps6
        go_wp2_with fail
        go_ret
        exact ⟨by rw [HB.out]; rfl, rfl⟩
end Go.Proofs.Ytbnkhpbgibgahaa.es
