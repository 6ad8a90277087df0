/-
  ZZjsFile, ZZnewLinker over this seat's program: the file and the linker context that they build.
  Conditions: none.
-/
import Derived.Test.YtknmcbhcbomjmaaSi
import Derived.Test.YtknmcbhcbomjmaaMk
import Derived.Laws.Tables
namespace Go.Proofs.Ytknmcbhcbomjmaa.xs
open Go.ChangeShapes Go.WideShapes Go.ChangeAt Go.RowKit
open kit

theorem sizeF : (Try.prog.info? 134).map (·.size) = some 24 := by kernel_rfl
/-- a struct built whole, its content under a name -/
theorem wpList_build1 {ops : Array Oper} {rest : List Oper} {o : Oper} {a : Act} {w : World} {Q : Exit → Act → World → Prop} (hg : o.guard = none) (t : TypeId) (parts : Array (Nat × Operand)) (ho : o.op = .build t parts)
    (L : List (Nat × Value)) (hL : (parts.map fun (i, x) => (i, a.eval x)).toList = L) (CS : Array Value) (hCS : Try.prog.built t L = some CS) (h : wpList Try.prog ops Q rest (a.put o.dst (.agg CS)) w) : wpList Try.prog ops Q (o :: rest) a w := by
  refine wpList_build hg t parts ho (by rw [hL, hCS]; rfl) ?_
  rw [hL, hCS]
  exact h
/-- the file that holds the JSRepr in block g -/
def FileV (g : Nat) (A : Array Value) : Prop := A.size = 24 ∧ A[2]? = some (.iface 96 (.pointer (some ⟨g, 0, none⟩))) ∧ A.all (·.oneCell') = true
def MadeFile (w : World) (g : Nat) (e : Ending) (w' : World) : Prop := ∃ A, e = .returned (.agg A) ∧ FileV g A ∧ Kept w w'

set_option maxRecDepth 100000 in
set_option maxHeartbeats 4000000 in
theorem jsFile (w : World) (g : Nat) (l : Int) : Calls Try.prog 13 #[.pointer (some ⟨g, 0, none⟩), .int .u8 l] w (MadeFile w g) := by
  obtain ⟨A1, hA1, A2, hA2, hp⟩ : ∃ A1, Try.prog.built 131 [(0, .iface 96 (.pointer (some ⟨g, 0, none⟩))), (6, .int .u8 l)] = some A1 ∧ ∃ A2, Try.prog.built 134 [(2, .agg A1)] = some A2 ∧ (A2.size, A2[2]?, A2.all (·.oneCell')) = (24, some (.iface 96 (.pointer (some ⟨g, 0, none⟩))), true) := by
    have h : (Try.prog.built 131 [(0, .iface 96 (.pointer (some ⟨g, 0, none⟩))), (6, .int .u8 l)]).bind (fun A1 => (Try.prog.built 134 [(2, .agg A1)]).map fun A2 => (A2.size, A2[2]?, A2.all (·.oneCell'))) = some (24, some (.iface 96 (.pointer (some ⟨g, 0, none⟩))), true) := by kernel_rfl
    obtain ⟨A1, h1, h2⟩ := Option.bind_eq_some_iff.1 h
    obtain ⟨A2, h3, h4⟩ := Option.map_eq_some_iff.1 h2
    exact ⟨A1, h1, A2, h3, h4⟩
  simp only [Prod.mk.injEq] at hp
  have HP : Hid (FileV g A2) := Lib.hid hp
  have hs : (Try.prog.info? 134).map (·.size) = some A2.size := by rw [hp.1]; exact sizeF
  have HA1 := Lib.hid hA1
  have HA2 := Lib.hid hA2
  clear hA1 hA2 hp
  go_enter Try.func13, Try.ntmps13
  have h1 : A2.all (·.oneCell') = true := HP.out.2.2
  have hz : A2.size = 24 := HP.out.1
  have HZ := Lib.hid hz
  clear hz
  go_wp2_with (first | (refine wpList_build1 rfl 131 _ rfl [(0, .iface 96 (.pointer (some ⟨g, 0, none⟩))), (6, .int .u8 l)] ?hL1 A1 HA1.out ?_) | (refine wpList_build1 rfl 134 _ rfl [(2, .agg A1)] ?hL2 A2 HA2.out ?_) | (with_reducible refine wpList_store_mid rfl 134 (.tmp 4) (.tmp 9) rfl _ 0 A2 rfl rfl (there_new _ _ _ _ (by rw [HZ.out]; simp)) hs h1 ?_))
  have key : ∀ Z : Array Value, Z.size = 24 → (loadVar 134 ⟨w.heap.size, 0, none⟩).run Try.prog ((w.alloc (.cells Z 134)).setCells w.heap.size 0 A2.toList) = .ok (.agg A2) ((w.alloc (.cells Z 134)).setCells w.heap.size 0 A2.toList) := fun Z hZ => by
    have hr := (boxed w 134 Z A2.toList (by simp [hZ, HZ.out])).2
    have := run_loadVar_mid (P := Try.prog) ((w.alloc (.cells Z 134)).setCells w.heap.size 0 A2.toList) w.heap.size 0 134 A2.toList _ (fun j v hv => by rw [Nat.zero_add]; exact hr j v hv) Try.underlying134 rfl (by simpa using hs)
    simpa using this
  exact bodyPost_ret (v := .agg A2) (by simp [results, Try.results13, Act.put, asAddr, key]) rfl ⟨A2, rfl, HP.out, (boxed w 134 _ A2.toList (by simp [HZ.out])).1⟩

/-- the linker context in block cb, its row of files in block LB -/
def MadeCtx (w : World) (LB n : Nat) (e : Ending) (w' : World) : Prop := ∃ cb cs, e = .returned (.pointer (some ⟨cb, 0, none⟩)) ∧ Blk w' cb 201 cs ∧ cs[10]? = some (.slice (some ⟨LB, 0, none⟩) n n) ∧ w.heap.size ≤ cb ∧ Kept w w'
set_option maxRecDepth 100000 in
set_option maxHeartbeats 4000000 in
theorem newCtx (w : World) (LB n : Nat) : Calls Try.prog 8 #[.slice (some ⟨LB, 0, none⟩) n n] w (MadeCtx w LB n) := by
  obtain ⟨A0, hA0⟩ : ∃ A0, Try.prog.built 177 [] = some A0 := by
    obtain ⟨A0, h, _⟩ := built_of (t := 177) (n := 102) (by kernel_rfl)
    exact ⟨A0, h⟩
  obtain ⟨A1, hA1, A2, hA2, hp⟩ : ∃ A1, Try.prog.built 183 [(0, .slice (some ⟨LB, 0, none⟩) n n)] = some A1 ∧ ∃ A2, Try.prog.built 201 [(0, .pointer (some ⟨w.heap.size, 0, none⟩)), (5, .agg A1)] = some A2 ∧ A2[10]? = some (.slice (some ⟨LB, 0, none⟩) n n) := by
    have h : (Try.prog.built 183 [(0, .slice (some ⟨LB, 0, none⟩) n n)]).bind (fun A1 => (Try.prog.built 201 [(0, .pointer (some ⟨w.heap.size, 0, none⟩)), (5, .agg A1)]).map fun A2 => A2[10]?) = some (some (.slice (some ⟨LB, 0, none⟩) n n)) := by kernel_rfl
    obtain ⟨A1, h1, h2⟩ := Option.bind_eq_some_iff.1 h
    obtain ⟨A2, h3, h4⟩ := Option.map_eq_some_iff.1 h2
    exact ⟨A1, h1, A2, h3, h4⟩
  have HP := Lib.hid hp
  have HA0 := Lib.hid hA0
  have HA1 := Lib.hid hA1
  have HA2 := Lib.hid hA2
  clear hA0 hA1 hA2 hp
  go_enter Try.func8, Try.ntmps8
  go_wp2_with (first | (with_reducible refine wp_build0 rfl 177 rfl A0 HA0.out ?_) | (refine wpList_build1 rfl 183 _ rfl [(0, .slice (some ⟨LB, 0, none⟩) n n)] ?hM1 A1 HA1.out ?_) | (refine wpList_build1 rfl 201 _ rfl [(0, .pointer (some ⟨w.heap.size, 0, none⟩)), (5, .agg A1)] ?hM2 A2 HA2.out ?_))
  go_ret
  refine ⟨_, A2.toList, rfl, ?_, by simpa using HP.out, ?_, ((Kept.refl _).alloc _).alloc _⟩
  · have := Blk.new (w.alloc (.cells A0 177)) 201 A2.toList
    simpa using this
  · simp
end Go.Proofs.Ytknmcbhcbomjmaa.xs
