/-
  A second pass over the table adds no alias, drops none, and leaves each entry its symbol and its file.
  Conditions: none beyond the given statement Rows.FnAddExportsForExportStarSecondPassKeepsBindingsSaid itself. This frame follows the one that the kit's proof-skeleton.mjs writes; the walk lies in YtknmcbhcbomjmaaXt.
-/
import Derived.Test.YtknmcbhcbomjmaaRows
import Derived.WalkKit
import Derived.ProofKit
import Derived.OpenShut
import Derived.ShutString
import Derived.ChangeOld
import Derived.Below
import Derived.Test.YtknmcbhcbomjmaaXt
import Derived.Test.YtknmcbhcbomjmaaXo
namespace Go.Proofs.Ytknmcbhcbomjmaa.fnAddExportsForExportStarSecondPassKeepsBindings
open Go.ChangeShapes Go.WideShapes Go.ChangeAt Go.RowKit
open Go.ChangeMaps (open_string shut_string)
set_option linter.unusedVariables false

theorem own : ownKnob Try.prog.godebug = none := by kernel_rfl
theorem laidOut : laidOutB Try.prog = true := by kernel_rfl
theorem u32_nonneg {n : Int} (h : (Lit.int .u32 n).wf = true) : 0 ≤ n := by
  simp only [Lit.wf, Bool.and_eq_true, decide_eq_true_eq] at h
  exact h.1

set_option maxRecDepth 100000 in
theorem lifted (os : Os) (started : os.Started) (H : Type) (enc : TypeId × Value → H) :
    ReturnsInHanded {} Try.checked os 4 .any (Rows.fnAddExportsForExportStarSecondPassKeepsBindingsSpec.pre6 enc Try.prog Try.f4 Rows.fnAddExportsForExportStarSecondPassKeepsBindingsRow.domain false) (Rows.fnAddExportsForExportStarSecondPassKeepsBindingsSpec.post enc Try.prog Try.f4 false true false false) := by
  refine returnsInHanded_of_change (C := Try.checked) own started (by kernel_rfl) Try.func4
    (ChangeSpec.witness6 (enc := enc) (C := Try.checked) false ⟨#[], #[.slice none 0 0, .int .u32 0], []⟩ 8 (by kernel_rfl) (by kernel_rfl) (by kernel_rfl) (by kernel_rfl)) ?_
  intro W base args ds gs before hval0 hW hcnd _
  have hval : ∀ (j : Nat) t v, Try.f4.params[j]? = some t → args[j]? = some v → Value.okWide Try.prog W .any base t v := hval0
  have hW' := hW
  obtain ⟨p, q, hA0, hV, rfl, hfz, hnd⟩ := hW
  have hA : DataW.TrodAll enc Try.prog W 0 (fun _ => true) true Try.f4.params.toList args.toList ds p := hA0
  rw [Try.params4] at hA hval
  obtain ⟨v0, vs0, d0, ds0, p0, q0, hargs, rfl, rfl, h0, r0⟩ := trodAll_cons hA
  obtain ⟨v1, vs1, d1, ds1, p1, q1, rfl, rfl, rfl, h1, r1⟩ := trodAll_cons r0
  obtain ⟨rfl, rfl, rfl⟩ := trodAll_nil r1
  obtain rfl : args = #[v0, v1] := by cases args; simp_all
  obtain ⟨rfl, rfl⟩ := trodVars_none hV
  obtain ⟨a0, len0, cap0, rfl⟩ := okWide_slice Try.underlying22 (hval 0 22 v0 rfl rfl)
  have k0 := h0
  have lt0 : ∀ x ∈ p0, x.block < W.heap.size := by obtain ⟨m, hm⟩ := k0; exact DataW.trod_lt m _ _ _ hm
  obtain ⟨fs, hfs, hlen⟩ := xs.openFiles h0
  obtain ⟨n1, rfl⟩ := okWide_int Try.underlying23 (hval 1 23 v1 rfl rfl)
  have k1 := h1
  have lt1 : ∀ x ∈ p1, x.block < W.heap.size := by obtain ⟨m, hm⟩ := k1; exact DataW.trod_lt m _ _ _ hm
  have hn1 : 0 ≤ n1 := by
    obtain ⟨m, hm⟩ := h1
    obtain ⟨n2, e2, _, w2⟩ := DataW.trod_int Try.underlying23 hm
    have e3 : n1 = n2 := by simpa [Value.cells] using e2
    rw [e3]
    exact u32_nonneg w2
  clear hA0 hval0
  refine (xs.law2 W a0 len0 cap0 fs n1 hfs hlen hn1).mono fun e W' ⟨he, bel⟩ => ?_
  subst he
  exact ⟨_, rfl, _, _, _, [], _, [], hW', trodAll_mk1 (shut_bool Try.underlying4 _), (trodAll_cons_mk (Below.trod laidOut (by kernel_rfl) (of_decide_eq_true (by kernel_rfl)) k0 bel lt0) (trodAll_cons_mk (Below.trod laidOut (by kernel_rfl) (of_decide_eq_true (by kernel_rfl)) k1 bel lt1) trodAll_mk0)), rfl, Below.frame bel _, fun h => by cases h⟩

theorem band {a b : Bool} (ha : a = true) (hb : b = true) : (a && b) = true := by rw [ha, hb]; rfl

set_option maxRecDepth 100000 in
set_option maxHeartbeats 40000000 in
theorem closed : joinedFacts Try.prog 4 Try.f4 Rows.fnAddExportsForExportStarSecondPassKeepsBindingsSpec Rows.fnAddExportsForExportStarSecondPassKeepsBindingsRow = true := by
  unfold joinedFacts
  repeat' (with_reducible refine band ?_ ?_)
  all_goals as_aux_lemma => kernel_rfl

theorem over : Rows.fnAddExportsForExportStarSecondPassKeepsBindingsRow.holds Try.pinned (OpenSpec.ofChange Rows.fnAddExportsForExportStarSecondPassKeepsBindingsSpec) :=
  OpenClaim.holds_of_wide 4 Try.f4 rfl rfl rfl rfl rfl rfl rfl ⟨rfl, rfl, rfl, rfl, rfl⟩ rfl rfl rfl rfl rfl (by kernel_rfl) Try.func4 closed
    (of_decide_eq_true (by kernel_rfl)) (by unfold Func.isWrapper; first | (rw [if_pos (by decide +kernel)]; kernel_rfl) | (rw [if_neg (by decide +kernel)]; exact ⟨rfl, rfl⟩))
    (fun os started H enc _ => lifted os started H enc)

/-- ████ THE STATEMENT ████ -/
theorem proved : Rows.FnAddExportsForExportStarSecondPassKeepsBindingsSaid := over
#print axioms proved
end Go.Proofs.Ytknmcbhcbomjmaa.fnAddExportsForExportStarSecondPassKeepsBindings
