/-
  CharFreq.Include over this seat's program: it adds the other histogram cell by cell, with 32-bit wrap-around.
  Conditions: the two histograms lie in different blocks.
-/
import Derived.Test.YtlpgghdimjmkiaaBlk
import Derived.RegionTactic
import Derived.ChangeAlike
import Derived.LoopTactic
import Derived.Outline
import Derived.Deep.RegionHeld3
import Derived.Deep.WholeRow
import Derived.Deep.QuietTactic
import Derived.BigQuiet
namespace Go.Proofs.Ytlpgghdimjmkiaa.inc
open Go.ChangeShapes Go.WideShapes Go.ChangeAt Go.RowKit
open kit

def i32s (l : List Int) : List Value := l.map (Value.int .i32)
/-- the first k cells have been added -/
def addK (fs os : List Int) (k : Nat) : List Int := (List.range 64).map fun j => if j < k then wrap32 (fs.getD j 0 + os.getD j 0) else fs.getD j 0
theorem i32s_at {l : List Int} {j : Nat} (h : j < l.length) : (i32s l)[j]? = some (.int .i32 (l.getD j 0)) := by simp [i32s, h]
theorem addK_length (fs os : List Int) (k : Nat) : (addK fs os k).length = 64 := by simp [addK]
theorem addK_at {fs os : List Int} {k j : Nat} (h : j < 64) : (addK fs os k).getD j 0 = if j < k then wrap32 (fs.getD j 0 + os.getD j 0) else fs.getD j 0 := by simp [addK, h]
theorem addK_zero {fs os : List Int} (h : fs.length = 64) : addK fs os 0 = fs := by
  apply List.ext_getElem
  · simp [addK, h]
  · intro j h1 h2
    simp [addK, h2]
theorem addK_set {fs os : List Int} {k : Nat} (h : k < 64) : (i32s (addK fs os k)).set k (.int .i32 (wrap32 (fs.getD k 0 + os.getD k 0))) = i32s (addK fs os (k + 1)) := by
  apply List.ext_getElem?
  intro j
  by_cases hj : k = j
  · subst hj
    rw [List.getElem?_set_self (by simp [i32s, addK, h]), i32s_at (by rw [addK_length]; exact h), addK_at h, if_pos (by omega)]
  · rw [List.getElem?_set_ne hj]
    by_cases h64 : j < 64
    · rw [i32s_at (by rw [addK_length]; exact h64), i32s_at (by rw [addK_length]; exact h64), addK_at h64, addK_at h64]
      by_cases hjk : j < k
      · rw [if_pos hjk, if_pos (by omega)]
      · rw [if_neg hjk, if_neg (by omega)]
    · rw [List.getElem?_eq_none (by simp [i32s, addK]; omega), List.getElem?_eq_none (by simp [i32s, addK]; omega)]
theorem only_drewN {a w : World} {row : Option Nat} (h : a.grownBy w row) (n : Nat) : a.grownBy (w.drewN n) row := ⟨h.os, h.tape, h.output, h.size, h.block⟩
theorem only_drew {a w : World} {row : Option Nat} (h : a.grownBy w row) : a.grownBy w.drew row := ⟨h.os, h.tape, h.output, h.size, h.block⟩
theorem only_setCell {a w : World} {g : Nat} (h : a.grownBy w (some g)) (i : Nat) (u : Value) : a.grownBy (w.setCell ⟨g, i, none⟩ u) (some g) :=
  ⟨h.os, h.tape, h.output, by simpa [World.setCell] using h.size, fun i hi hne => (Below.heap_setCell w _ u i (by
    rintro rfl
    exact hne rfl)).trans (h.block i hi hne)⟩

set_option maxHeartbeats 1000000 in
theorem run (w : World) (f o : Nat) (fs os : List Int) (hf : Blk w f 23 (i32s fs)) (ho : Blk w o 23 (i32s os)) (hne : f ≠ o) (lf : fs.length = 64) (lo : os.length = 64) :
    Calls Try.prog 4 #[.pointer (some ⟨f, 0, none⟩), .pointer (some ⟨o, 0, none⟩)] w fun e w' => e = .returned (.tuple #[]) ∧ Blk w' f 23 (i32s (addK fs os 64)) ∧ w.grownBy w' (some f) := by
  have HF := Lib.hid hf
  have HO := Lib.hid ho
  have LF := Lib.hid lf
  have LO := Lib.hid lo
  clear hf ho lf lo
  go_enter Try.func4, Try.ntmps4
  go_wp2
  go_loopw [4] (fun t wr => ∃ k : Nat, k ≤ 64 ∧ t = .int .i64 (k : Int) ∧ Hid (Blk wr f 23 (i32s (addK fs os k))) ∧ Hid (w.grownBy wr (some f))) (fun t _ => 64 - (intOf t).toNat)
  case atStart => exact ⟨0, by omega, rfl, by rw [addK_zero LF.out]; exact HF, Lib.hid (World.grownBy.refl w _)⟩
  case round =>
    obtain ⟨k, hk, rfl, B1, G⟩ := hrel
    by_cases hlt : k < 64
    · have B2 : Hid (Blk wr o 23 (i32s os)) := Lib.hid (HO.out.grown G.out (fun e => hne (by injection e with e; exact e.symm)))
      have c1 : wr.cell? ⟨f, k, none⟩ = some (.int .i32 (fs.getD k 0)) := by
        rw [B1.out.cell, i32s_at (by rw [addK_length]; exact hlt), addK_at hlt, if_neg (by omega)]
      have c2 : wr.cell? ⟨o, k, none⟩ = some (.int .i32 (os.getD k 0)) := by
        rw [B2.out.cell, i32s_at (by rw [LO.out]; exact hlt)]
      have f1 := B1.out.free k
      have HS := Lib.hid (addK_set (fs := fs) (os := os) hlt)
      generalize fs.getD k 0 = x at *
      generalize os.getD k 0 = y at *
      have i1 : (0 : Int) ≤ (k : Int) := by omega
      have i2 : (k : Int) < 64 := by omega
      go_wp2
      go_region
      go_wp2
      go_roundw
      case rel => exact ⟨k + 1, by omega, by go_num, Lib.hid (by rw [← HS.out]; exact B1.out.set _ _), Lib.hid (only_drewN (only_setCell G.out _ _) _)⟩
      case measure => simp [intOf]; omega
    · obtain rfl : k = 64 := by omega
      go_wp2
      go_end0
      exact ⟨rfl, B1.out, G.out⟩

theorem zero23 : ∃ Z : Array Value, Z.size = 64 ∧ Z = (List.replicate 64 (Value.int .i32 0)).toArray ∧ ∀ w : World, (zeroValue 23).run Try.prog w = .ok (.agg Z) w :=
  ⟨_, rfl, rfl, (zero_of_info (n := 64) (v := .agg (List.replicate 64 (Value.int .i32 0)).toArray) (by kernel_rfl)).1⟩
theorem size22 : (Try.prog.info? 22).map (·.size) = some 64 := by kernel_rfl
theorem size23 : (Try.prog.info? 23).map (·.size) = some 64 := by kernel_rfl
theorem one_i32s (l : List Int) : ((i32s l).toArray).all (·.oneCell') = true := by
  rw [Array.all_eq_true_iff_forall_mem]
  intro x hx
  simp only [i32s, List.mem_toArray, List.mem_map] at hx
  obtain ⟨y, _, rfl⟩ := hx
  rfl
def zeros : List Int := List.replicate 64 0
/-- a variable of type CharFreq, zero -/
theorem wp_var {ops : Array Oper} {rest : List Oper} {al : Oper} {a : Act} {Q : Exit → Act → World → Prop} (w : World) (ga : al.guard = none) (oa : al.op = .alloc 23)
    (h : wpList Try.prog ops Q rest (a.put al.dst (.pointer (some ⟨w.heap.size, 0, none⟩))) (w.alloc (.cells (i32s zeros).toArray 23))) : wpList Try.prog ops Q (al :: rest) a w := by
  refine wpList_plain ga fun K hK => ?_
  obtain ⟨Z, _, hZ, hz⟩ := zero23
  have e : Z = (i32s zeros).toArray := by rw [hZ]; simp [i32s, zeros]
  unfold Oper.wp execOp
  simp only [oa, Instr.alloc, Sem.run_bind, hz, Result.andThen_ok, e]
  exact hK _ _ h
/-- a variable of type CharFreq, a copy of an array -/
theorem wp_copyArr {ops : Array Oper} {rest : List Oper} {l al st : Oper} {a : Act} {Q : Exit → Act → World → Prop} (w : World) (src dst tmp : Tmp) (gl : l.guard = none) (dl : l.dst = some tmp) (ol : l.op = .load 22 (.tmp src))
    (ga : al.guard = none) (da : al.dst = some dst) (oa : al.op = .alloc 23) (gs : st.guard = none) (ds : st.dst = none) (os : st.op = .store 23 (.tmp dst) (.tmp tmp))
    (g : Nat) (A : Array Value) (xs : List Int) (hx : Hid ((i32s xs).toArray = A ∧ xs.length = 64)) (hs : a.eval (.tmp src) = .pointer (some ⟨g, 0, none⟩)) (hb : w.heap[g]? = some (.cells A 22 (0, 0)))
    (e1 : ((a.put (some tmp) (.agg A)).put (some dst) (.pointer (some ⟨w.heap.size, 0, none⟩))).eval (.tmp dst) = .pointer (some ⟨w.heap.size, 0, none⟩))
    (e2 : ((a.put (some tmp) (.agg A)).put (some dst) (.pointer (some ⟨w.heap.size, 0, none⟩))).eval (.tmp tmp) = .agg A)
    (h : wpList Try.prog ops Q rest (((a.put (some tmp) (.agg A)).put (some dst) (.pointer (some ⟨w.heap.size, 0, none⟩))).put none undef) (w.alloc (.cells A 23))) :
    wpList Try.prog ops Q (l :: al :: st :: rest) a w := by
  obtain ⟨rfl, hl⟩ := hx.out
  have hsz : (i32s xs).toArray.size = 64 := by simp [i32s, hl]
  refine wpList_load_row gl 22 (.tmp src) ol g hs 22 (i32s xs).toArray (0, 0) _ hb Try.underlying22 rfl (by rw [size22, hsz]) ?_
  rw [dl]
  refine wp_var w ga oa ?_
  rw [da]
  refine wpList_store_row gs 23 (.tmp dst) (.tmp tmp) os w.heap.size (i32s xs).toArray e1 e2 23 (i32s zeros).toArray (heap_alloc_new w _) (by rw [size23, hsz]) (by rw [hsz]; rfl) (one_i32s xs) ?_
  rw [ds, World.setRow_alloc_new]
  exact h
theorem blk_of {w : World} {g : Nat} {t : TypeId} {A : Array Value} {xs : List Int} (hx : Hid ((i32s xs).toArray = A ∧ xs.length = 64)) (h : w.heap[g]? = some (.cells A t (0, 0))) : Blk w g t (i32s xs) := by
  obtain ⟨rfl, _⟩ := hx.out
  exact h
end Go.Proofs.Ytlpgghdimjmkiaa.inc
