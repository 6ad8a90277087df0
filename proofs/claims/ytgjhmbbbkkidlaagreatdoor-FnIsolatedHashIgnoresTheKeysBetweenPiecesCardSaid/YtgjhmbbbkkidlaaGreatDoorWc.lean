/-
  Steps of a lone run, one operation each.
  Conditions: none; no program in sight.
-/
import Derived.Conc.Own3
import Derived.Conc.DeferLaws
import Derived.Test.YtgjhmbbbkkidlaaGreatDoorWa
namespace Go.Proofs.YtgjhmbbbkkidlaaGreatDoor.hash
open Go
open Go.Conc (G stepG_value stepG_enter)
section
variable {P : Program} {b : Frame} {a : Act} {k : List Item} {cs : List Frame} {w w' : World} {ops : Array Oper} {i : Nat} {rest : List Nat} {o : Oper}
theorem step_of_G {fr fr1 : Frame} {cs cs1 : List Frame} {v v1 : World} {es : Array Event} (h : stepG P true (G fr cs) v = .go (G fr1 cs1) v1 es) : step P (lone fr cs v) = .next (lone fr1 cs1 v1) := by
  refine step_lone_go ?_
  have h' : stepG P true { frame := fr, callers := cs, status := .running, dying := none } v = .go (G fr1 cs1) v1 es := h
  rw [h']
  rfl
theorem steps_value {v : Value} (ho : ops[i]? = some o) (hw : Region.wanted o (yielded ops a.tmps) = true) (hk : b.kind ≠ .early) (hr : (execOp a.eval o).run P w = .ok (.value v) w') :
    Steps P (lone (b.at a (.inRegion ops (i :: rest) :: k)) cs w) (lone (b.at (a.put o.dst v) (.inRegion ops rest :: k)) cs w') := .one (step_of_G (stepG_value ho hw hk hr))
theorem steps_call {f : FuncId} {args : Array Value} {R : Value → World → Prop} (ho : ops[i]? = some o) (hw : Region.wanted o (yielded ops a.tmps) = true) (hk : b.kind ≠ .early) (hr : (execOp a.eval o).run P w = .ok (.enter f args) w')
    (hc : Calls P f args w' fun e w2 => ∃ v, e = .returned v ∧ R v w2) : ∃ v w2, R v w2 ∧ Steps P (lone (b.at a (.inRegion ops (i :: rest) :: k)) cs w) (lone (b.at (a.put o.dst v) (.inRegion ops rest :: k)) cs w2) := by
  obtain ⟨e, w2, fr, ⟨v, rfl, hR⟩, hs, _, hl⟩ := hc (b.at a (.inRegion ops (i :: rest) :: k) :: cs)
  refine ⟨v, w2, hR, .trans (.one (step_of_G (stepG_enter ho hw hk hr))) (.trans hs (.one ?_))⟩
  rw [step_leave_returned hl, Frame.finish_at, ho]
  rfl
end
end Go.Proofs.YtgjhmbbbkkidlaaGreatDoor.hash
