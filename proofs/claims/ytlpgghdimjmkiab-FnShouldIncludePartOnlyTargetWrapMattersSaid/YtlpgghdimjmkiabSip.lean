/-
  Contracts over this seat's program: Index32's three functions and linkerContext.shouldIncludePart.
  Conditions: the cells that shouldIncludePart reads are known.
-/
import Derived.Test.YtlpgghdimjmkiabMk
import Derived.Laws.Tables
import Derived.LoopTactic
import Derived.Outline
import Derived.Deep.QuietTactic
import Derived.BigQuiet
import Derived.Deep.RegionHeld3
import Derived.StillTailTactics
import Derived.Laws.BitsAllLaws
namespace Go.Proofs.Ytlpgghdimjmkiab.sip
open Go.ChangeShapes Go.WideShapes Go.ChangeAt Go.RowKit
open kit

theorem infoF : (Try.prog.info? 106).map (fun i => (i.size, i.bytes, i.zero.map (·.cells.size))) = some (24, 280, some 24) := by kernel_rfl
theorem infoR : (Try.prog.info? 115).map (fun i => (i.size, i.bytes, i.zero.map (·.cells.size))) = some (15, 112, some 15) := by kernel_rfl
theorem infoS : (Try.prog.info? 126).map (fun i => (i.size, i.bytes, i.zero.map (·.cells.size))) = some (2, 24, some 2) := by kernel_rfl

theorem flip32 (a : Int) (h0 : 0 ≤ a) (h1 : a ≤ 4294967295) : bits .xor .u32 IntKind.u32.max a = 4294967295 - a := by
  obtain ⟨n, rfl⟩ := Int.eq_ofNat_of_zero_le h0
  have hn : n < 4294967296 := by omega
  have hm : IntKind.u32.max = ((4294967295 : Nat) : Int) := by decide
  rw [hm, u32_xor_nat _ _ (by decide) hn]
  have : 4294967295 ^^^ n = 4294967295 - n := by
    have h : (BitVec.allOnes 32 ^^^ BitVec.ofNat 32 n).toNat = (~~~ BitVec.ofNat 32 n).toNat := by rw [BitVec.allOnes_xor]
    rw [BitVec.toNat_xor, BitVec.toNat_not] at h
    simp only [BitVec.toNat_allOnes, BitVec.toNat_ofNat, Nat.reducePow, Nat.reduceSub, Nat.mod_eq_of_lt hn] at h
    exact h
  rw [this]; omega
theorem make (a : Int) (h0 : 0 ≤ a) (h1 : a ≤ 4294967295) (w : World) :
    Calls Try.prog 10 #[.int .u32 a] w fun e w' => e = .returned (.agg #[.int .u32 (4294967295 - a)]) ∧ Kept w w' := by
  have hx := flip32 a h0 h1
  go_enter Try.func10, Try.ntmps10
  go_wp2
  exact bodyPost_ret (v := .agg #[.int .u32 (4294967295 - a)]) (by simp [results, Try.results10, go_sem]) rfl ⟨rfl, (Kept.refl _).alloc _⟩
theorem get (a : Int) (h0 : 0 ≤ a) (h1 : a ≤ 4294967295) (w : World) :
    Calls Try.prog 13 #[.agg #[.int .u32 a]] w fun e w' => e = .returned (.int .u32 (4294967295 - a)) ∧ Kept w w' := by
  have hx := flip32 a h0 h1
  go_enter Try.func13, Try.ntmps13
  go_wp2
  go_ret
  exact ⟨rfl, (Kept.refl _).alloc _⟩
theorem valid (a : Int) (b : Bool) (hb : (a == 0) = !b) (w : World) :
    Calls Try.prog 12 #[.agg #[.int .u32 a]] w fun e w' => e = .returned (.bool b) ∧ Kept w w' := by
  have h2 : (a != 0) = b := by rw [bne, hb]; simp
  clear hb
  go_enter Try.func12, Try.ntmps12
  go_wp2
  go_ret
  exact ⟨rfl, (Kept.refl _).alloc _⟩

set_option maxRecDepth 100000 in
set_option maxHeartbeats 4000000 in
/-- not a single import statement: the part is kept -/
theorem many (w : World) (cb rb B3 n3 : Nat) (P : Array Value) (h3 : n3 ≠ 1) (hP : P[0]? = some (.slice (some ⟨B3, 0, none⟩) n3 n3)) (hn : n3 ≤ 65536) :
    Calls Try.prog 11 #[.pointer (some ⟨cb, 0, none⟩), .pointer (some ⟨rb, 0, none⟩), .agg P] w fun e w' => e = .returned (.bool true) ∧ Kept w w' := by
  have hc : (w.alloc (.cells P 164)).cell? ⟨w.heap.size, 0, none⟩ = some (.slice (some ⟨B3, 0, none⟩) n3 n3) := by
    rw [cell_of_row _ _ 0 P 164 (0, 0) (heap_alloc_new w _)]; exact hP
  have h1 : ((n3 : Int) == 1) = false := by simp; omega
  clear hP h3
  go_enter Try.func11, Try.ntmps11
  go_wp2
  go_ret
  exact ⟨rfl, (Kept.refl _).alloc _⟩

set_option maxRecDepth 100000 in
set_option maxHeartbeats 4000000 in
/-- a single statement that is no import -/
theorem noImport (w : World) (cb rb B3 : Nat) (P : Array Value) (v : Value) (hP : P[0]? = some (.slice (some ⟨B3, 0, none⟩) 1 1)) (hs : w.cell? ⟨B3, 0, none⟩ = some (.iface 127 v)) :
    Calls Try.prog 11 #[.pointer (some ⟨cb, 0, none⟩), .pointer (some ⟨rb, 0, none⟩), .agg P] w fun e w' => e = .returned (.bool true) ∧ Kept w w' := by
  have hc : (w.alloc (.cells P 164)).cell? ⟨w.heap.size, 0, none⟩ = some (.slice (some ⟨B3, 0, none⟩) 1 1) := by
    rw [cell_of_row _ _ 0 P 164 (0, 0) (heap_alloc_new w _)]; exact hP
  have hs1 : (w.alloc (.cells P 164)).cell? ⟨B3, 0, none⟩ = some (.iface 127 v) := ((Kept.refl w).alloc _).cell hs
  clear hP hs
  have ta : ∀ W : World, (Instr.typeAssert (.iface 127 v) 124 117 true).run Try.prog W = .ok (.tuple #[.pointer none, .bool false]) W := fun W => by kernel_rfl
  go_enter Try.func11, Try.ntmps11
  go_wp2
  go_ret
  exact ⟨rfl, (Kept.refl _).alloc _⟩

set_option maxRecDepth 100000 in
set_option maxHeartbeats 4000000 in
/-- a single import statement, its record valid -/
theorem oneImport (w : World) (cb rb B3 sb B2 n2 B0 n0 jb : Nat) (P : Array Value) (r t : Nat) (z : Int) (b : Bool) (hP : P[0]? = some (.slice (some ⟨B3, 0, none⟩) 1 1)) (hs : w.cell? ⟨B3, 0, none⟩ = some (.iface 117 (.pointer (some ⟨sb, 0, none⟩))))
    (hr : w.cell? ⟨sb, 5, none⟩ = some (.int .u32 (r : Int))) (hrn : r < n2) (hb : w.cell? ⟨rb, 35, none⟩ = some (.slice (some ⟨B2, 0, none⟩) n2 n2)) (hf : w.cell? ⟨B2, r * 15 + 10, none⟩ = some (.int .u32 (4294967295 - (t : Int)))) (htn : t < n0) (hn0 : n0 ≤ 65536)
    (hcb : w.cell? ⟨cb, 10, none⟩ = some (.slice (some ⟨B0, 0, none⟩) n0 n0)) (hF : w.cell? ⟨B0, t * 24 + 2, none⟩ = some (.iface 32 (.pointer (some ⟨jb, 0, none⟩)))) (hz : w.cell? ⟨jb, 11, none⟩ = some (.int .u8 z)) (hzb : (z == 0) = !b) :
    Calls Try.prog 11 #[.pointer (some ⟨cb, 0, none⟩), .pointer (some ⟨rb, 0, none⟩), .agg P] w fun e w' => e = .returned (.bool b) ∧ Kept w w' := by
  have hc : (w.alloc (.cells P 164)).cell? ⟨w.heap.size, 0, none⟩ = some (.slice (some ⟨B3, 0, none⟩) 1 1) := by
    rw [cell_of_row _ _ 0 P 164 (0, 0) (heap_alloc_new w _)]; exact hP
  have hs1 : (w.alloc (.cells P 164)).cell? ⟨B3, 0, none⟩ = some (.iface 117 (.pointer (some ⟨sb, 0, none⟩))) := ((Kept.refl w).alloc _).cell hs
  clear hP hs
  have ta : ∀ W : World, (Instr.typeAssert (.iface 117 (.pointer (some ⟨sb, 0, none⟩))) 124 117 true).run Try.prog W = .ok (.tuple #[.pointer (some ⟨sb, 0, none⟩), .bool true]) W := fun W => by kernel_rfl
  have tb : ∀ W : World, (Instr.typeAssert (.iface 32 (.pointer (some ⟨jb, 0, none⟩))) 82 32 false).run Try.prog W = .ok (.pointer (some ⟨jb, 0, none⟩)) W := fun W => by kernel_rfl
  obtain ⟨w1, hw1⟩ : ∃ w1, w1 = w.alloc (.cells P 164) := ⟨_, rfl⟩
  have K1 : Hid (Kept w w1) := Lib.hid (by rw [hw1]; exact (Kept.refl _).alloc _)
  have x1 : w1.cell? ⟨sb, 5, none⟩ = some (.int .u32 (r : Int)) := K1.out.cell hr
  have x2 : w1.cell? ⟨rb, 35, none⟩ = some (.slice (some ⟨B2, 0, none⟩) n2 n2) := K1.out.cell hb
  have y1 : w1.cell? ⟨B2, r * 15 + 10, none⟩ = some (.int .u32 (4294967295 - (t : Int))) := K1.out.cell hf
  have y2 : w1.cell? ⟨cb, 10, none⟩ = some (.slice (some ⟨B0, 0, none⟩) n0 n0) := K1.out.cell hcb
  have y3 : w1.cell? ⟨B0, t * 24 + 2, none⟩ = some (.iface 32 (.pointer (some ⟨jb, 0, none⟩))) := K1.out.cell hF
  have y4 : w1.cell? ⟨jb, 11, none⟩ = some (.int .u8 z) := K1.out.cell hz
  have i0 : (0 : Int) ≤ (r : Int) := by omega
  have i1 : (r : Int) < (n2 : Int) := by omega
  have i2 : (0 : Int) ≤ (t : Int) := by omega
  have i3 : (t : Int) < (n0 : Int) := by omega
  have HV := Lib.hid (fun W (k : Kept w1 W) => (valid (4294967295 - (t : Int)) true (by simp; omega) W).mono (fun e w' (h : e = .returned (.bool true) ∧ Kept W w') => (show e = .returned (.bool true) ∧ Kept w1 w' from ⟨h.1, k.trans h.2⟩)))
  have HG := Lib.hid (fun W (k : Kept w1 W) => (get (4294967295 - (t : Int)) (by omega) (by omega) W).mono (fun e w' (h : e = .returned (.int .u32 (4294967295 - (4294967295 - (t : Int)))) ∧ Kept W w') => (show e = .returned (.int .u32 (t : Int)) ∧ Kept w1 w' from ⟨by rw [h.1]; congr 2; omega, k.trans h.2⟩)))
  generalize 4294967295 - (t : Int) = f at *
  go_enter Try.func11, Try.ntmps11
  go_wp2
  rw [← hw1] at *
  clear hw1 hr hb hf hcb hF hz
  go_quiet (fail)
  go_wp2
  go_region_held3 (fun W => W.cell? ⟨B2, r * 15 + 10, none⟩ = some (.int .u32 f) ∧ W.cell? ⟨cb, 10, none⟩ = some (.slice (some ⟨B0, 0, none⟩) n0 n0) ∧ W.cell? ⟨B0, t * 24 + 2, none⟩ = some (.iface 32 (.pointer (some ⟨jb, 0, none⟩))) ∧ W.cell? ⟨jb, 11, none⟩ = some (.int .u8 z)) (first | exact ⟨hk3.cell y1, hk3.cell y2, hk3.cell y3, hk3.cell y4⟩ | exact ⟨hk2.cell y1, hk2.cell y2, hk2.cell y3, hk2.cell y4⟩ | go_keep)
    (first | (go_at_call 12; refine (HV.out _ ?_).mono ?_; (repeat (first | assumption | exact Kept.refl _ | apply Kept.drewN | apply Kept.drew)); rintro e w2 ⟨rfl, hk2⟩) | (go_at_call 13; refine (HG.out _ ?_).mono ?_; (repeat (first | assumption | exact Kept.refl _ | apply Kept.drewN | apply Kept.drew)); rintro e w3 ⟨rfl, hk3⟩))
  rename_i hheld
  clear hheld y1 y2 y3 y4
  cases b
  · have hz2 : (z == 0) = true := hzb
    clear hzb
    go_wp2
    go_ret
    exact ⟨rfl, K1.out.trans hk3⟩
  · have hz2 : (z == 0) = false := hzb
    clear hzb
    go_wp2
    go_ret
    exact ⟨rfl, K1.out.trans hk3⟩

end Go.Proofs.Ytlpgghdimjmkiab.sip
