/-
  Including two histograms either way gives the same cells, and including the negation of what was included gives the first back.
  Conditions: none beyond the given statement Rows.FnIncludeCommutesAndNegationUndoesSaid itself. This frame follows the one that the kit's proof-skeleton.mjs writes; the walk lies in YtlpgghdimjmkiaaIncMain.
-/
import Derived.Test.YtlpgghdimjmkiaaRows
import Derived.WalkKit
import Derived.ProofKit
import Derived.OpenShut
import Derived.ShutString
import Derived.ChangeOld
import Derived.Below
import Derived.Test.YtlpgghdimjmkiaaIncMain
namespace Go.Proofs.Ytlpgghdimjmkiaa.fnIncludeCommutesAndNegationUndoes
open Go.ChangeShapes Go.WideShapes Go.ChangeAt Go.RowKit
open Go.ChangeMaps (open_string shut_string)
set_option linter.unusedVariables false

theorem own : ownKnob Try.prog.godebug = none := by kernel_rfl
theorem laidOut : laidOutB Try.prog = true := by kernel_rfl
theorem cells21 : Try.prog.cellsOf 21 = 1 := by kernel_rfl
theorem cells22 : Try.prog.cellsOf 22 = 64 := by kernel_rfl
theorem wfi32 {n : Int} (h : (Lit.int .i32 n).wf = true) : -2147483648 ≤ n ∧ n ≤ 2147483647 := by
  simp only [Lit.wf, Bool.and_eq_true, decide_eq_true_eq] at h
  exact h
def num : Value → Int
  | .int _ n => n
  | _ => 0
/-- an array of 64 32-bit integers that came in -/
theorem open64 {H : Type} {enc : TypeId × Value → H} {W : World} {b : Nat} {sp : Nat → Bool} {hd : Bool} {cs : Array Value} {d : DataW H} {p : List MemPlace} (h : DataW.Trod enc Try.prog W b sp hd 22 (.agg cs) d p) (hs : cs.size = 64) :
    ∃ zs : List Int, (inc.i32s zs).toArray = cs ∧ zs.length = 64 ∧ ∀ j, -2147483648 ≤ zs.getD j 0 ∧ zs.getD j 0 ≤ 2147483647 := by
  obtain ⟨fuel, hf⟩ := h
  obtain ⟨xs, m, _, _, _, hl, hel⟩ := DataW.trod_array Try.underlying22 hf
  rw [cells21] at hel
  have hcs : (Value.agg cs).cells.toList.length = 64 := by simpa [Value.cells] using hs
  have one : ∀ j (hj : j < cs.size), ∃ n, cs[j] = .int .i32 n ∧ (Lit.int .i32 n).wf = true := by
    intro j hj
    have h1 := hel j (by omega)
    have e : ((Value.agg cs).cells.toList.drop (j * 1)).take 1 = [cs[j]] := by
      rw [List.drop_eq_getElem_cons (by rw [hcs]; omega)]
      simp [Value.cells]
    rw [e] at h1
    have h2 : xs[j]? = some (xs[j]'(by omega)) := List.getElem?_eq_getElem (by omega)
    obtain ⟨n, en, _, wn⟩ := DataW.trod_int Try.underlying21 (h1.trans h2)
    refine ⟨n, ?_, wn⟩
    injection en
  refine ⟨cs.toList.map num, ?_, by simp [hs], fun j => ?_⟩
  · apply Array.ext
    · simp [inc.i32s]
    · intro j h1 h2
      obtain ⟨n, en, _⟩ := one j h2
      simp [inc.i32s, en, num]
  · by_cases hj : j < cs.size
    · obtain ⟨n, en, wn⟩ := one j hj
      have e : (cs.toList.map num).getD j 0 = n := by simp [hj, en, num]
      rw [e]
      exact wfi32 wn
    · have e : (cs.toList.map num).getD j 0 = 0 := by
        rw [List.getD_eq_getElem?_getD, List.getElem?_eq_none (by simp; omega)]; rfl
      rw [e]
      omega

set_option maxRecDepth 100000 in
theorem lifted (os : Os) (started : os.Started) (H : Type) (enc : TypeId × Value → H) :
    ReturnsInHanded {} Try.checked os 3 .any (Rows.fnIncludeCommutesAndNegationUndoesSpec.pre6 enc Try.prog Try.f3 Rows.fnIncludeCommutesAndNegationUndoesRow.domain false) (Rows.fnIncludeCommutesAndNegationUndoesSpec.post enc Try.prog Try.f3 false true false false) := by
  refine returnsInHanded_of_change (C := Try.checked) own started (by kernel_rfl) Try.func3
    (ChangeSpec.witness6 (enc := enc) (C := Try.checked) false ⟨#[], #[.agg (List.replicate 64 (Value.int .i32 0)).toArray, .agg (List.replicate 64 (Value.int .i32 0)).toArray], []⟩ 8 (by kernel_rfl) (by kernel_rfl) (by kernel_rfl) (by kernel_rfl)) ?_
  intro W base args ds gs before hval0 hW hcnd _
  have hval : ∀ (j : Nat) t v, Try.f3.params[j]? = some t → args[j]? = some v → Value.okWide Try.prog W .any base t v := hval0
  have hW' := hW
  obtain ⟨p, q, hA0, hV, rfl, hfz, hnd⟩ := hW
  have hA : DataW.TrodAll enc Try.prog W 0 (fun _ => true) true Try.f3.params.toList args.toList ds p := hA0
  rw [Try.params3] at hA hval
  obtain ⟨v0, vs0, d0, ds0, p0, q0, hargs, rfl, rfl, h0, r0⟩ := trodAll_cons hA
  obtain ⟨v1, vs1, d1, ds1, p1, q1, rfl, rfl, rfl, h1, r1⟩ := trodAll_cons r0
  obtain ⟨rfl, rfl, rfl⟩ := trodAll_nil r1
  obtain rfl : args = #[v0, v1] := by cases args; simp_all
  obtain ⟨rfl, rfl⟩ := trodVars_none hV
  obtain ⟨cs0, rfl, hs0⟩ : ∃ cs, v0 = .agg cs ∧ cs.size = 64 := by
    have := hval 0 22 v0 rfl rfl
    simp only [Value.okWide, Try.underlying22] at this
    obtain ⟨cs, e, hs, _⟩ := this
    exact ⟨cs, e, hs.trans cells22⟩
  have k0 := h0
  have lt0 : ∀ x ∈ p0, x.block < W.heap.size := by obtain ⟨m, hm⟩ := k0; exact DataW.trod_lt m _ _ _ hm
  obtain ⟨z0, e0, l0, w0⟩ := open64 h0 hs0
  obtain ⟨cs1, rfl, hs1⟩ : ∃ cs, v1 = .agg cs ∧ cs.size = 64 := by
    have := hval 1 22 v1 rfl rfl
    simp only [Value.okWide, Try.underlying22] at this
    obtain ⟨cs, e, hs, _⟩ := this
    exact ⟨cs, e, hs.trans cells22⟩
  have k1 := h1
  have lt1 : ∀ x ∈ p1, x.block < W.heap.size := by obtain ⟨m, hm⟩ := k1; exact DataW.trod_lt m _ _ _ hm
  obtain ⟨z1, e1, l1, w1⟩ := open64 h1 hs1
  clear hA0 hval0
  have hwalk := inc.walk z0 z1 W l0 l1 w0
  rw [e0, e1] at hwalk
  refine hwalk.mono fun e W' ⟨he, bel⟩ => ?_
  subst he
  exact ⟨_, rfl, _, _, _, [], _, [], hW', trodAll_mk1 (shut_bool Try.underlying4 _), (trodAll_cons_mk (Below.trod laidOut (by kernel_rfl) (of_decide_eq_true (by kernel_rfl)) k0 bel lt0) (trodAll_cons_mk (Below.trod laidOut (by kernel_rfl) (of_decide_eq_true (by kernel_rfl)) k1 bel lt1) trodAll_mk0)), rfl, bel.frame _, fun h => by cases h⟩

theorem band {a b : Bool} (ha : a = true) (hb : b = true) : (a && b) = true := by rw [ha, hb]; rfl

set_option maxRecDepth 100000 in
set_option maxHeartbeats 40000000 in
theorem closed : joinedFacts Try.prog 3 Try.f3 Rows.fnIncludeCommutesAndNegationUndoesSpec Rows.fnIncludeCommutesAndNegationUndoesRow = true := by
  unfold joinedFacts
  repeat' (with_reducible refine band ?_ ?_)
  all_goals as_aux_lemma => kernel_rfl

theorem over : Rows.fnIncludeCommutesAndNegationUndoesRow.holds Try.pinned (OpenSpec.ofChange Rows.fnIncludeCommutesAndNegationUndoesSpec) :=
  OpenClaim.holds_of_wide 3 Try.f3 rfl rfl rfl rfl rfl rfl rfl ⟨rfl, rfl, rfl, rfl, rfl⟩ rfl rfl rfl rfl rfl (by kernel_rfl) Try.func3 closed
    (of_decide_eq_true (by kernel_rfl)) (by unfold Func.isWrapper; first | (rw [if_pos (by decide +kernel)]; kernel_rfl) | (rw [if_neg (by decide +kernel)]; exact ⟨rfl, rfl⟩))
    (fun os started H enc _ => lifted os started H enc)

/-- ████ THE STATEMENT ████ -/
theorem proved : Rows.FnIncludeCommutesAndNegationUndoesSaid := over
#print axioms proved
end Go.Proofs.Ytlpgghdimjmkiaa.fnIncludeCommutesAndNegationUndoes
