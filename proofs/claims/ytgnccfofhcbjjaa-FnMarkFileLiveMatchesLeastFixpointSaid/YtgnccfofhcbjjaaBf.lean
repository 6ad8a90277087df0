/-
  ZZjsLinkerFile, ZZnewLinkerContext over this seat's program: the file and the linker context that they build.
  Conditions: none.
-/
import Derived.Test.YtgnccfofhcbjjaaBt
namespace Go.Proofs.Ytgnccfofhcbjjaa.lk
open Go.ChangeShapes Go.WideShapes Go.ChangeAt Go.RowKit
open kit dfs

theorem sizeF : (Try.prog.info? 60).map (·.size) = some 24 := by kernel_rfl
/-- a struct built whole, its content under a name -/
theorem wpList_build1 {ops : Array Oper} {rest : List Oper} {o : Oper} {a : Act} {w : World} {Q : Exit → Act → World → Prop} (hg : o.guard = none) (t : TypeId) (parts : Array (Nat × Operand)) (ho : o.op = .build t parts)
    (L : List (Nat × Value)) (hL : (parts.map fun (i, x) => (i, a.eval x)).toList = L) (CS : Array Value) (hCS : Try.prog.built t L = some CS) (h : wpList Try.prog ops Q rest (a.put o.dst (.agg CS)) w) : wpList Try.prog ops Q (o :: rest) a w := by
  refine wpList_build hg t parts ho (by rw [hL, hCS]; rfl) ?_
  rw [hL, hCS]
  exact h
/-- the file that holds the JSRepr in block g -/
def FileV (g : Nat) (A : Array Value) : Prop := A.size = 24 ∧ A[2]? = some (.iface 132 (.pointer (some ⟨g, 0, none⟩))) ∧ A[7]? = some (.int .u8 0) ∧ A.all (·.oneCell') = true ∧ A[22]? = some (.int .u8 0)
def MadeFile (w : World) (g : Nat) (e : Ending) (w' : World) : Prop := ∃ A, e = .returned (.agg A) ∧ FileV g A ∧ Kept w w'
/-- the zero file -/
def zF : List Value := [.slice none 0 0, .pointer none, .nilIface, .pointer none, .slice none 0 0, .string ⟨#[]⟩, .pointer none, .int .u8 0, .string ⟨#[]⟩, .string ⟨#[]⟩, .string ⟨#[]⟩, .string ⟨#[]⟩, .string ⟨#[]⟩, .string ⟨#[]⟩, .string ⟨#[]⟩, .string ⟨#[]⟩, .int .u8 0, .int .u32 0, .int .u8 0, .bool false, .int .u32 0, .int .u32 0, .int .u8 0, .bool false]
theorem fileV_of (g : Nat) : FileV g (zF.set 2 (.iface 132 (.pointer (some ⟨g, 0, none⟩)))).toArray := ⟨rfl, rfl, rfl, by simp [zF, Value.oneCell'], rfl⟩
theorem blkNew1 (w : World) (o : Obj) (t : TypeId) (cs : List Value) : Blk ((w.alloc o).alloc (.cells cs.toArray t)) (w.heap.size + 1) t cs := by
  have := Blk.new (w.alloc o) t cs
  simpa using this
set_option maxRecDepth 100000 in
set_option maxHeartbeats 8000000 in
theorem jsFile (w : World) (g : Nat) : Calls Try.prog 17 #[.pointer (some ⟨g, 0, none⟩)] w (MadeFile w g) := by
  have hV := fileV_of g
  have hl : zF.length = 24 := rfl
  obtain ⟨CS, hCS⟩ : ∃ CS, CS = zF.set 2 (.iface 132 (.pointer (some ⟨g, 0, none⟩))) := ⟨_, rfl⟩
  rw [← hCS] at hV
  have hlC : CS.length = 24 := by rw [hCS, List.length_set]; exact hl
  have HV := Lib.hid hV
  have HCS := Lib.hid hCS
  have HL := Lib.hid hl
  have HLC := Lib.hid hlC
  clear hV hCS hl hlC
  go_enter Try.func17, Try.ntmps17
  go_upto_region 2 with fail
  obtain ⟨W1, hW1⟩ : ∃ W1, W1 = (w.alloc (.cells #[.slice none 0 0, .pointer none, .nilIface, .pointer none, .slice none 0 0, .string ⟨#[]⟩, .pointer none, .int .u8 0, .string ⟨#[]⟩, .string ⟨#[]⟩, .string ⟨#[]⟩, .string ⟨#[]⟩, .string ⟨#[]⟩, .string ⟨#[]⟩, .string ⟨#[]⟩, .string ⟨#[]⟩, .int .u8 0, .int .u32 0, .int .u8 0, .bool false, .int .u32 0, .int .u32 0, .int .u8 0, .bool false] 60)).alloc (.cells #[.slice none 0 0, .pointer none, .nilIface, .pointer none, .slice none 0 0, .string ⟨#[]⟩, .pointer none, .int .u8 0, .string ⟨#[]⟩, .string ⟨#[]⟩, .string ⟨#[]⟩, .string ⟨#[]⟩, .string ⟨#[]⟩, .string ⟨#[]⟩, .string ⟨#[]⟩, .string ⟨#[]⟩, .int .u8 0, .int .u32 0, .int .u8 0, .bool false, .int .u32 0, .int .u32 0, .int .u8 0, .bool false] 60) := ⟨_, rfl⟩
  rw [← hW1]
  have bA : Blk W1 w.heap.size 60 zF := by rw [hW1]; exact (Blk.new w 60 zF).alloc _
  have bB : Blk W1 (w.heap.size + 1) 60 zF := by rw [hW1]; exact blkNew1 w _ 60 zF
  have K1 : Hid (Kept w W1) := Lib.hid (by rw [hW1]; exact ((Kept.refl _).alloc _).alloc _)
  obtain ⟨v, y1, y2⟩ : ∃ v, W1.cell? ⟨w.heap.size + 1, 2, none⟩ = some v ∧ W1.frozen? ⟨w.heap.size + 1, 2, none⟩ = false := ⟨_, bB.cellD (by rw [HL.out]; omega), bB.free _⟩
  have B2 : Hid (Blk (W1.setCell ⟨w.heap.size + 1, 2, none⟩ (.iface 132 (.pointer (some ⟨g, 0, none⟩)))) (w.heap.size + 1) 60 CS) := Lib.hid (by rw [HCS.out]; exact bB.set 2 _)
  have A2 : Hid (Blk (W1.setCell ⟨w.heap.size + 1, 2, none⟩ (.iface 132 (.pointer (some ⟨g, 0, none⟩)))) w.heap.size 60 zF) := Lib.hid (bA.far (p := ⟨w.heap.size + 1, 2, none⟩) (by show w.heap.size ≠ w.heap.size + 1; omega) _)
  have K2 := Lib.hid (K1.out.setCell (p := ⟨w.heap.size + 1, 2, none⟩) (by show w.heap.size ≤ w.heap.size + 1; omega) (.iface 132 (.pointer (some ⟨g, 0, none⟩))))
  clear hW1 bA bB K1
  go_upto_region 3 with fail
  generalize W1.setCell ⟨w.heap.size + 1, 2, none⟩ (.iface 132 (.pointer (some ⟨g, 0, none⟩))) = W2 at *
  clear y1 y2
  have hr : W2.rangeAt (w.heap.size + 1) 0 CS := fun j v hv => by rw [Nat.zero_add, B2.out.cell]; exact hv
  have hsz : (Try.prog.info? 60).map (·.size) = some CS.length := by rw [HLC.out]; exact sizeF
  have hth : W2.there w.heap.size 0 CS.toArray.size := A2.out.there (by rw [HL.out, List.size_toArray, HLC.out]; omega)
  have h1 : CS.toArray.all (·.oneCell') = true := HV.out.2.2.2.1
  go_wp2_with (first | (with_reducible refine wpList_load_mid rfl 60 (.tmp 3) rfl (w.heap.size + 1) 0 rfl CS _ hr Try.underlying60 rfl hsz ?_) | (with_reducible refine wpList_store_mid rfl 60 (.tmp 2) (.tmp 8) rfl w.heap.size 0 CS.toArray rfl rfl hth (by simpa using hsz) h1 ?_))
  have hk : Kept w (W2.setCells w.heap.size 0 CS.toArray.toList) := Kept.setCells _ _ _ K2.out (Nat.le_refl _)
  have hload : (loadVar 60 ⟨w.heap.size, 0, none⟩).run Try.prog (W2.setCells w.heap.size 0 CS) = .ok (.agg CS.toArray) (W2.setCells w.heap.size 0 CS) := by
    have hr2 := World.rangeAt_setCells_same W2 w.heap.size 0 CS (by simpa using hth)
    exact run_loadVar_mid (P := Try.prog) _ w.heap.size 0 60 CS _ hr2 Try.underlying60 rfl hsz
  exact bodyPost_ret (v := .agg CS.toArray) (by simp [results, Try.results17, Act.put, asAddr, hload]) rfl ⟨_, rfl, HV.out, hk⟩

/-- the linker context in block cb, its row of files in block LB -/
def MadeCtx (w : World) (LB n ob : Nat) (e : Ending) (w' : World) : Prop := ∃ cb cs, e = .returned (.pointer (some ⟨cb, 0, none⟩)) ∧ Blk w' cb 221 cs ∧ cs[10]? = some (.slice (some ⟨LB, 0, none⟩) n n) ∧ cs[0]? = some (.pointer (some ⟨ob, 0, none⟩)) ∧ w.heap.size ≤ cb ∧ Kept w w'
set_option maxRecDepth 100000 in
set_option maxHeartbeats 4000000 in
theorem newCtx (w : World) (LB n ob : Nat) : Calls Try.prog 19 #[.pointer (some ⟨ob, 0, none⟩), .slice (some ⟨LB, 0, none⟩) n n] w (MadeCtx w LB n ob) := by
  obtain ⟨A1, hA1, A2, hA2, hp⟩ : ∃ A1, Try.prog.built 203 [(0, .slice (some ⟨LB, 0, none⟩) n n)] = some A1 ∧ ∃ A2, Try.prog.built 221 [(0, .pointer (some ⟨ob, 0, none⟩)), (5, .agg A1)] = some A2 ∧ (A2[10]?, A2[0]?) = (some (.slice (some ⟨LB, 0, none⟩) n n), some (.pointer (some ⟨ob, 0, none⟩))) := by
    have h : (Try.prog.built 203 [(0, .slice (some ⟨LB, 0, none⟩) n n)]).bind (fun A1 => (Try.prog.built 221 [(0, .pointer (some ⟨ob, 0, none⟩)), (5, .agg A1)]).map fun A2 => (A2[10]?, A2[0]?)) = some (some (.slice (some ⟨LB, 0, none⟩) n n), some (.pointer (some ⟨ob, 0, none⟩))) := by kernel_rfl
    obtain ⟨A1, h1, h2⟩ := Option.bind_eq_some_iff.1 h
    obtain ⟨A2, h3, h4⟩ := Option.map_eq_some_iff.1 h2
    exact ⟨A1, h1, A2, h3, h4⟩
  simp only [Prod.mk.injEq] at hp
  have HP := Lib.hid hp
  have HA1 := Lib.hid hA1
  have HA2 := Lib.hid hA2
  clear hA1 hA2 hp
  go_enter Try.func19, Try.ntmps19
  go_wp2_with (first | (refine wpList_build1 rfl 203 _ rfl [(0, .slice (some ⟨LB, 0, none⟩) n n)] ?hM1 A1 HA1.out ?_) | (refine wpList_build1 rfl 221 _ rfl [(0, .pointer (some ⟨ob, 0, none⟩)), (5, .agg A1)] ?hM2 A2 HA2.out ?_))
  go_ret
  refine ⟨_, A2.toList, rfl, ?_, by simpa using HP.out.1, by simpa using HP.out.2, Nat.le_refl _, (Kept.refl _).alloc _⟩
  have := Blk.new w 221 A2.toList
  simpa using this
end Go.Proofs.Ytgnccfofhcbjjaa.lk
