/-
  linkerContext.shouldIncludePart over this seat's program, the record not valid.
  Conditions: the cells that it reads are known.
-/
import Derived.Test.YtlpgghdimjmkiabSip
import Derived.BigCall
import Derived.BigGuard
namespace Go.Proofs.Ytlpgghdimjmkiab.sip
open Go.ChangeShapes Go.WideShapes Go.ChangeAt Go.RowKit
open kit

/-- an operation that the guard passes over, taken first -/
theorem takeS {P : Program} {md : Region.Mode} {ops : Array Oper} {Q : Exit → Act → World → Prop} {S : World → Prop} {fuel : Nat} {listed : Array Bool} {a : Act} {w : World} (i : Nat) (d : Option Tmp) {oi : Oper} (hi : ops[i]? = some oi) (hd : oi.dst = d)
    (hs : Region.noSelect ops = true) (hf : Region.free md ops listed i = true) (hr : (Region.ready md ops listed).contains i = true) (hQ : ∀ c a w, Q (.panic c) (a.put d undef) w → Q (.panic c) a w)
    (hw : Region.wanted oi (yielded ops a.tmps) = false) (hS : S w) (h : wpAnyH P md ops Q S fuel (listed.setIfInBounds i true) (a.put d undef) w) : wpAnyH P md ops Q S (fuel + 1) listed a w := by
  subst hd
  exact wpAnyH_take hi hs hf hr hQ (Or.inr ⟨hw, rfl⟩) hS h
/-- an operation that only reads, taken first -/
theorem takeY {P : Program} {md : Region.Mode} {ops : Array Oper} {Q : Exit → Act → World → Prop} {S : World → Prop} {fuel : Nat} {listed : Array Bool} {a : Act} {w : World} (i : Nat) (d : Option Tmp) (v : Value) {oi : Oper} (hi : ops[i]? = some oi) (hd : oi.dst = d)
    (hs : Region.noSelect ops = true) (hf : Region.free md ops listed i = true) (hr : (Region.ready md ops listed).contains i = true) (hQ : ∀ c a w, Q (.panic c) (a.put d v) w → Q (.panic c) a w)
    (hw : Region.wanted oi (yielded ops a.tmps) = true) (hv : ∀ w, S w → (execOp a.eval oi).run P w = .ok (.value v) w) (hS : S w) (h : wpAnyH P md ops Q S fuel (listed.setIfInBounds i true) (a.put d v) w) : wpAnyH P md ops Q S (fuel + 1) listed a w := by
  subst hd
  exact wpAnyH_take hi hs hf hr hQ (Or.inl ⟨hw, hv⟩) hS h

set_option maxRecDepth 100000 in
set_option maxHeartbeats 40000000 in
/-- a single import statement, its record not valid -/
theorem noRecord (w : World) (cb rb B3 sb B2 n2 : Nat) (P : Array Value) (r : Nat) (hP : P[0]? = some (.slice (some ⟨B3, 0, none⟩) 1 1)) (hs : w.cell? ⟨B3, 0, none⟩ = some (.iface 117 (.pointer (some ⟨sb, 0, none⟩))))
    (hr : w.cell? ⟨sb, 5, none⟩ = some (.int .u32 (r : Int))) (hrn : r < n2) (hb : w.cell? ⟨rb, 35, none⟩ = some (.slice (some ⟨B2, 0, none⟩) n2 n2)) (hf : w.cell? ⟨B2, r * 15 + 10, none⟩ = some (.int .u32 0)) :
    Calls Try.prog 11 #[.pointer (some ⟨cb, 0, none⟩), .pointer (some ⟨rb, 0, none⟩), .agg P] w fun e w' => e = .returned (.bool true) ∧ Kept w w' := by
  have hc : (w.alloc (.cells P 164)).cell? ⟨w.heap.size, 0, none⟩ = some (.slice (some ⟨B3, 0, none⟩) 1 1) := by
    rw [cell_of_row _ _ 0 P 164 (0, 0) (heap_alloc_new w _)]; exact hP
  have hs1 : (w.alloc (.cells P 164)).cell? ⟨B3, 0, none⟩ = some (.iface 117 (.pointer (some ⟨sb, 0, none⟩))) := ((Kept.refl w).alloc _).cell hs
  clear hP hs
  have ta : ∀ W : World, (Instr.typeAssert (.iface 117 (.pointer (some ⟨sb, 0, none⟩))) 124 117 true).run Try.prog W = .ok (.tuple #[.pointer (some ⟨sb, 0, none⟩), .bool true]) W := fun W => by kernel_rfl
  obtain ⟨w1, hw1⟩ : ∃ w1, w1 = w.alloc (.cells P 164) := ⟨_, rfl⟩
  have K1 : Hid (Kept w w1) := Lib.hid (by rw [hw1]; exact (Kept.refl _).alloc _)
  have x1 : w1.cell? ⟨sb, 5, none⟩ = some (.int .u32 (r : Int)) := K1.out.cell hr
  have x2 : w1.cell? ⟨rb, 35, none⟩ = some (.slice (some ⟨B2, 0, none⟩) n2 n2) := K1.out.cell hb
  have y1 : w1.cell? ⟨B2, r * 15 + 10, none⟩ = some (.int .u32 0) := K1.out.cell hf
  have i0 : (0 : Int) ≤ (r : Int) := by omega
  have i1 : (r : Int) < (n2 : Int) := by omega
  have HV := Lib.hid (fun W (k : Kept w1 W) => (valid 0 false rfl W).mono (fun e w' (h : e = .returned (.bool false) ∧ Kept W w') => (show e = .returned (.bool false) ∧ Kept w1 w' from ⟨h.1, k.trans h.2⟩)))
  go_enter Try.func11, Try.ntmps11
  go_wp2
  rw [← hw1] at *
  clear hw1 hr hb hf
  go_quiet (fail)
  go_wp2
  refine wp_region_held_drew (S := fun W => W.cell? ⟨B2, r * 15 + 10, none⟩ = some (.int .u32 0)) (by kernel_rfl) y1 (fun hHeld => ?_)
  refine takeY 0 (some 34) (.pointer (some ⟨B2, r * 15, none⟩)) rfl rfl (by kernel_rfl) (by kernel_rfl) (by kernel_rfl) (fun _ _ _ h => h) (by kernel_rfl) ?_ (by assumption) ?_
  · intro W hSW
    try dsimp only at hSW
    go_simp
  simp only [Act.put, List.setIfInBounds_toArray, List.set_cons_zero, List.set_cons_succ]
  refine takeY 1 (some 35) (.pointer (some ⟨B2, r * 15, none⟩)) rfl rfl (by kernel_rfl) (by kernel_rfl) (by kernel_rfl) (fun _ _ _ h => h) (by kernel_rfl) ?_ (by assumption) ?_
  · intro W hSW
    try dsimp only at hSW
    go_simp
  simp only [Act.put, List.setIfInBounds_toArray, List.set_cons_zero, List.set_cons_succ]
  refine takeY 2 (some 36) (.pointer (some ⟨B2, r * 15 + 10, none⟩)) rfl rfl (by kernel_rfl) (by kernel_rfl) (by kernel_rfl) (fun _ _ _ h => h) (by kernel_rfl) ?_ (by assumption) ?_
  · intro W hSW
    try dsimp only at hSW
    go_simp
  simp only [Act.put, List.setIfInBounds_toArray, List.set_cons_zero, List.set_cons_succ]
  refine takeY 3 (some 37) (.agg #[.int .u32 0]) rfl rfl (by kernel_rfl) (by kernel_rfl) (by kernel_rfl) (fun _ _ _ h => h) (by kernel_rfl) ?_ (by assumption) ?_
  · intro W hSW
    try dsimp only at hSW
    go_simp
  simp only [Act.put, List.setIfInBounds_toArray, List.set_cons_zero, List.set_cons_succ]
  refine wpAnyH_ready (rs := [4]) (by kernel_rfl) (by simp) ?_
  refine AllReadyH.cons rfl (fun K hK => ?_) AllReadyH.nil
  go_simp
  go_wp2_with (go_at_call 12; refine (HV.out _ ?_).mono ?_; (repeat (first | assumption | exact Kept.refl _ | apply Kept.drewN | apply Kept.drew)); rintro e w2 ⟨rfl, hk2⟩)
  refine hK.out _ _ (hk2.cell y1) (fun hHeld2 => ?_)
  clear hK K
  refine takeY 5 (some 39) (.bool false) rfl rfl (by kernel_rfl) (by kernel_rfl) (by kernel_rfl) (fun _ _ _ h => h) (by kernel_rfl) ?_ (by assumption) ?_
  · intro W hSW
    try dsimp only at hSW
    go_simp
  simp only [Act.put, List.setIfInBounds_toArray, List.set_cons_zero, List.set_cons_succ]
  refine takeS 6 (some 40) rfl rfl (by kernel_rfl) (by kernel_rfl) (by kernel_rfl) (fun _ _ _ h => h) (by kernel_rfl) (by assumption) ?_
  simp only [Act.put, List.setIfInBounds_toArray, List.set_cons_zero, List.set_cons_succ]
  refine takeS 7 (some 41) rfl rfl (by kernel_rfl) (by kernel_rfl) (by kernel_rfl) (fun _ _ _ h => h) (by kernel_rfl) (by assumption) ?_
  simp only [Act.put, List.setIfInBounds_toArray, List.set_cons_zero, List.set_cons_succ]
  refine takeS 8 (some 42) rfl rfl (by kernel_rfl) (by kernel_rfl) (by kernel_rfl) (fun _ _ _ h => h) (by kernel_rfl) (by assumption) ?_
  simp only [Act.put, List.setIfInBounds_toArray, List.set_cons_zero, List.set_cons_succ]
  refine takeS 9 (some 43) rfl rfl (by kernel_rfl) (by kernel_rfl) (by kernel_rfl) (fun _ _ _ h => h) (by kernel_rfl) (by assumption) ?_
  simp only [Act.put, List.setIfInBounds_toArray, List.set_cons_zero, List.set_cons_succ]
  refine takeS 10 (some 44) rfl rfl (by kernel_rfl) (by kernel_rfl) (by kernel_rfl) (fun _ _ _ h => h) (by kernel_rfl) (by assumption) ?_
  simp only [Act.put, List.setIfInBounds_toArray, List.set_cons_zero, List.set_cons_succ]
  refine takeS 11 (some 45) rfl rfl (by kernel_rfl) (by kernel_rfl) (by kernel_rfl) (fun _ _ _ h => h) (by kernel_rfl) (by assumption) ?_
  simp only [Act.put, List.setIfInBounds_toArray, List.set_cons_zero, List.set_cons_succ]
  refine takeS 12 (some 46) rfl rfl (by kernel_rfl) (by kernel_rfl) (by kernel_rfl) (fun _ _ _ h => h) (by kernel_rfl) (by assumption) ?_
  simp only [Act.put, List.setIfInBounds_toArray, List.set_cons_zero, List.set_cons_succ]
  refine takeS 13 (some 47) rfl rfl (by kernel_rfl) (by kernel_rfl) (by kernel_rfl) (fun _ _ _ h => h) (by kernel_rfl) (by assumption) ?_
  simp only [Act.put, List.setIfInBounds_toArray, List.set_cons_zero, List.set_cons_succ]
  refine takeS 14 (some 48) rfl rfl (by kernel_rfl) (by kernel_rfl) (by kernel_rfl) (fun _ _ _ h => h) (by kernel_rfl) (by assumption) ?_
  simp only [Act.put, List.setIfInBounds_toArray, List.set_cons_zero, List.set_cons_succ]
  refine takeS 15 (some 49) rfl rfl (by kernel_rfl) (by kernel_rfl) (by kernel_rfl) (fun _ _ _ h => h) (by kernel_rfl) (by assumption) ?_
  simp only [Act.put, List.setIfInBounds_toArray, List.set_cons_zero, List.set_cons_succ]
  refine takeS 16 (some 50) rfl rfl (by kernel_rfl) (by kernel_rfl) (by kernel_rfl) (fun _ _ _ h => h) (by kernel_rfl) (by assumption) ?_
  simp only [Act.put, List.setIfInBounds_toArray, List.set_cons_zero, List.set_cons_succ]
  refine takeS 17 (some 51) rfl rfl (by kernel_rfl) (by kernel_rfl) (by kernel_rfl) (fun _ _ _ h => h) (by kernel_rfl) (by assumption) ?_
  simp only [Act.put, List.setIfInBounds_toArray, List.set_cons_zero, List.set_cons_succ]
  refine takeS 18 (some 52) rfl rfl (by kernel_rfl) (by kernel_rfl) (by kernel_rfl) (fun _ _ _ h => h) (by kernel_rfl) (by assumption) ?_
  simp only [Act.put, List.setIfInBounds_toArray, List.set_cons_zero, List.set_cons_succ]
  refine takeS 19 (some 53) rfl rfl (by kernel_rfl) (by kernel_rfl) (by kernel_rfl) (fun _ _ _ h => h) (by kernel_rfl) (by assumption) ?_
  simp only [Act.put, List.setIfInBounds_toArray, List.set_cons_zero, List.set_cons_succ]
  refine takeS 20 (some 54) rfl rfl (by kernel_rfl) (by kernel_rfl) (by kernel_rfl) (fun _ _ _ h => h) (by kernel_rfl) (by assumption) ?_
  simp only [Act.put, List.setIfInBounds_toArray, List.set_cons_zero, List.set_cons_succ]
  refine takeS 21 (some 55) rfl rfl (by kernel_rfl) (by kernel_rfl) (by kernel_rfl) (fun _ _ _ h => h) (by kernel_rfl) (by assumption) ?_
  simp only [Act.put, List.setIfInBounds_toArray, List.set_cons_zero, List.set_cons_succ]
  refine takeS 22 (some 56) rfl rfl (by kernel_rfl) (by kernel_rfl) (by kernel_rfl) (fun _ _ _ h => h) (by kernel_rfl) (by assumption) ?_
  simp only [Act.put, List.setIfInBounds_toArray, List.set_cons_zero, List.set_cons_succ]
  refine takeS 23 (some 57) rfl rfl (by kernel_rfl) (by kernel_rfl) (by kernel_rfl) (fun _ _ _ h => h) (by kernel_rfl) (by assumption) ?_
  simp only [Act.put, List.setIfInBounds_toArray, List.set_cons_zero, List.set_cons_succ]
  refine takeS 24 (some 58) rfl rfl (by kernel_rfl) (by kernel_rfl) (by kernel_rfl) (fun _ _ _ h => h) (by kernel_rfl) (by assumption) ?_
  simp only [Act.put, List.setIfInBounds_toArray, List.set_cons_zero, List.set_cons_succ]
  refine takeS 25 (some 59) rfl rfl (by kernel_rfl) (by kernel_rfl) (by kernel_rfl) (fun _ _ _ h => h) (by kernel_rfl) (by assumption) ?_
  simp only [Act.put, List.setIfInBounds_toArray, List.set_cons_zero, List.set_cons_succ]
  refine takeY 26 (some 60) (.bool false) rfl rfl (by kernel_rfl) (by kernel_rfl) (by kernel_rfl) (fun _ _ _ h => h) (by kernel_rfl) ?_ (by assumption) ?_
  · intro W hSW
    try dsimp only at hSW
    go_simp
  simp only [Act.put, List.setIfInBounds_toArray, List.set_cons_zero, List.set_cons_succ]
  refine wpAnyH_done (by kernel_rfl) ?_ _
  clear y1 hHeld hHeld2
  go_wp2
  go_ret
  exact ⟨rfl, K1.out.trans hk2⟩
end Go.Proofs.Ytlpgghdimjmkiab.sip
