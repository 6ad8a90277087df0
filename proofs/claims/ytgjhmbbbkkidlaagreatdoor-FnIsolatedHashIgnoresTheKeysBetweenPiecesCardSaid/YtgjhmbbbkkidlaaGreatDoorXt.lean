/-
  Two chunks with the same public path and the same piece texts have the same isolated hash of eight bytes, whatever their interior keys are, and repeated waits agree.
  Conditions: none beyond the given card Rows.FnIsolatedHashIgnoresTheKeysBetweenPiecesCardSaid itself (it ties xxhash.prime1v to the program's text; over the pruned copy of the seat).
-/
import Derived.Seven
import Derived.Test.YtgjhmbbbkkidlaaGreatDoorXs
namespace Go.Proofs.YtgjhmbbbkkidlaaGreatDoor.fnIsolatedHashIgnoresTheKeysBetweenPieces
open Go.ChangeShapes Go.WideShapes Go.ChangeAt Go.RowKit
theorem band {a b : Bool} (ha : a = true) (hb : b = true) : (a && b) = true := by rw [ha, hb]; rfl
set_option maxRecDepth 100000 in
set_option maxHeartbeats 40000000 in
theorem closed : joinedFacts Tryz.prog 3 Tryz.f3 Rows.fnIsolatedHashIgnoresTheKeysBetweenPiecesSpec Rows.fnIsolatedHashIgnoresTheKeysBetweenPiecesRow = true := by
  unfold joinedFacts
  repeat' (with_reducible refine band ?_ ?_)
  all_goals as_aux_lemma => kernel_rfl
theorem over : Rows.fnIsolatedHashIgnoresTheKeysBetweenPiecesRow.holds Tryz.pinned (OpenSpec.ofChange Rows.fnIsolatedHashIgnoresTheKeysBetweenPiecesSpec) :=
  OpenClaim.holds_of_wide_leaving 3 Tryz.f3 rfl rfl rfl rfl rfl rfl rfl ⟨rfl, rfl, rfl, rfl, rfl⟩ rfl rfl rfl rfl rfl (by kernel_rfl) Tryz.func3 closed
    (of_decide_eq_true (by kernel_rfl)) (by unfold Func.isWrapper; first | (rw [if_pos (by decide +kernel)]; kernel_rfl) | (rw [if_neg (by decide +kernel)]; exact ⟨rfl, rfl⟩))
    (fun os started H enc _ => lifted os started H enc)
theorem plain (f : FuncId) (fn : Func) (hf : Tryz.pinned.checked.prog.funcNamed "github.com/evanw/esbuild/n011_177.FnIsolatedHashIgnoresTheKeysBetweenPieces" = some f) (hfn : Tryz.pinned.checked.prog.funcs[f]? = some fn) :
    true = Tryz.pinned.checked.prog.looks [] ∧ ∀ (j : Nat) t, fn.params[j]? = some t → Tryz.pinned.checked.prog.wantsStandIn t = false := by
  obtain rfl : f = 3 := Option.some.inj ((show Tryz.prog.funcNamed "github.com/evanw/esbuild/n011_177.FnIsolatedHashIgnoresTheKeysBetweenPieces" = some 3 by kernel_rfl).symm.trans hf) |>.symm
  obtain rfl : fn = Tryz.f3 := (Option.some.inj (Tryz.func3.symm.trans hfn)).symm
  refine ⟨by kernel_rfl, fun j t ht => ?_⟩
  rw [Tryz.params3] at ht
  have hm : t ∈ [9, 22, 23, 24, 23, 24] := by simpa using Array.mem_of_getElem? ht
  have hall : ([9, 22, 23, 24, 23, 24].all fun u => !Tryz.prog.wantsStandIn u) = true := by kernel_rfl
  exact (show Tryz.prog.wantsStandIn t = false by simpa using List.all_eq_true.1 hall t hm)
/-- a tied card without a companion, of a function that starts goroutines -/
theorem tied_goes {p : Pinned} {s : OpenSpec} {c : OpenClaim} (kinds : List LaidKind) (tests : Bool) (har : Bool × String) (lk : Bool)
    (hc : c.holds p s) (hw : c.wfByText s = true) (htie : c.laidByTextAt .later p kinds tests)
    (hst : c.start = .entering) (hnb : c.noBlocks = false ∧ c.again = false) (hm : p.checked.prog.mainIs = some (har.1, har.2.toList)) (hn : (!har.1 && har.2.isEmpty && !lk) = false)
    (hl : ∀ f fn, p.checked.prog.funcNamed c.func = some f → p.checked.prog.funcs[f]? = some fn → lk = p.checked.prog.looks [] ∧ ∀ (j : Nat) t, fn.params[j]? = some t → p.checked.prog.wantsStandIn t = false)
    (hg : true = c.goesBy p.checked.prog) :
    Claim7.holds p (.plain s) { stood := { row := c, standIns := [], harness := har, looks := lk }, kinds := [], alts := [], goes := true, laidByText := true, laidKinds := kinds, laidTests := tests, laidLooks := .later } := by
  have h6 : ∀ r : OpenClaim, Claim7.isSixth { stood := { row := r, standIns := [], harness := har, looks := lk }, kinds := [] } = false := fun r => by simpa [Claim7.isSixth] using hn
  refine ⟨Claim7.tied_new_at .later kinds tests (Claim7.new_of_sixth hc har lk hst hnb hm (h6 c) hl) hw, fun D hD => ?_, htie, (fun h => by cases h), hg⟩
  cases hD
/-- the card -/
theorem proved : Rows.FnIsolatedHashIgnoresTheKeysBetweenPiecesCardSaid :=
  tied_goes _ _ _ _ over (by kernel_rfl) fnIsolatedHashIgnoresTheKeysBetweenPieces_row_tie rfl ⟨rfl, rfl⟩ (by kernel_rfl) rfl plain (by kernel_rfl)
#print axioms proved
end Go.Proofs.YtgjhmbbbkkidlaaGreatDoor.fnIsolatedHashIgnoresTheKeysBetweenPieces
