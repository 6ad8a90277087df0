/-
  Two moves of a walk through a region that draws its order: an operation taken first, read or passed over.
  Conditions: none.
-/
import Derived.Test.YtbnkhpbgibgahaaKit
import Derived.Deep.RegionHeld3
namespace Go.Proofs.Ytbnkhpbgibgahaa.kit
open Go.ChangeShapes Go.WideShapes Go.ChangeAt Go.RowKit

/-- an operation that the guard passes over, taken first -/
theorem takeS {P : Program} {md : Region.Mode} {ops : Array Oper} {Q : Exit → Act → World → Prop} {S : World → Prop} {fuel : Nat} {listed : Array Bool} {a : Act} {w : World} (i : Nat) (d : Option Tmp) {oi : Oper} (hi : ops[i]? = some oi) (hd : oi.dst = d)
    (hs : Region.noSelect ops = true) (hf : Region.free md ops listed i = true) (hr : (Region.ready md ops listed).contains i = true) (hQ : ∀ c a w, Q (.panic c) (a.put d undef) w → Q (.panic c) a w)
    (hw : Region.wanted oi (yielded ops a.tmps) = false) (hS : S w) (h : wpAnyH P md ops Q S fuel (listed.setIfInBounds i true) (a.put d undef) w) : wpAnyH P md ops Q S (fuel + 1) listed a w := by
  subst hd
  exact wpAnyH_take hi hs hf hr hQ (Or.inr ⟨hw, rfl⟩) hS h
/-- an operation that only reads, taken first -/
theorem takeY {P : Program} {md : Region.Mode} {ops : Array Oper} {Q : Exit → Act → World → Prop} {S : World → Prop} {fuel : Nat} {listed : Array Bool} {a : Act} {w : World} (i : Nat) (d : Option Tmp) (v : Value) {oi : Oper} (hi : ops[i]? = some oi) (hd : oi.dst = d)
    (hs : Region.noSelect ops = true) (hf : Region.free md ops listed i = true) (hr : (Region.ready md ops listed).contains i = true) (hQ : ∀ c a w, Q (.panic c) (a.put d v) w → Q (.panic c) a w)
    (hw : Region.wanted oi (yielded ops a.tmps) = true) (hv : ∀ w, S w → (execOp a.eval oi).run P w = .ok (.value v) w) (hS : S w) (h : wpAnyH P md ops Q S fuel (listed.setIfInBounds i true) (a.put d v) w) : wpAnyH P md ops Q S (fuel + 1) listed a w := by
  subst hd
  exact wpAnyH_take hi hs hf hr hQ (Or.inl ⟨hw, hv⟩) hS h

end Go.Proofs.Ytbnkhpbgibgahaa.kit
