/-
  Runs that come to the last part of a function's code.
  Conditions: none; no program in sight.
-/
import Derived.Calls
namespace Go.Proofs.YtgjhmbbbkkidlaaGreatDoor.hash
open Go
/-- the code's run comes to its last part -/
def Gets (P : Program) (last : Code) (R : Act → World → Prop) (c : Code) (a : Act) (w : World) : Prop :=
  ∀ (b : Frame) (k : List Item) (cs : List Frame), ∃ a' w', R a' w' ∧ Steps P (lone (b.at a (.code c :: k)) cs w) (lone (b.at a' (.code last :: k)) cs w')
theorem gets_here {P : Program} {last : Code} {R : Act → World → Prop} {a : Act} {w : World} (h : R a w) : Gets P last R last a w := fun _ _ _ => ⟨a, w, h, Steps.refl _ _⟩
theorem gets_seq {P : Program} {last : Code} {R : Act → World → Prop} {x y : Code} {a : Act} {w : World} (h : x.wp P (Exit.then (Gets P last R y) (fun _ _ _ => False)) a w) : Gets P last R (.seq x y) a w := by
  intro b k cs
  obtain ⟨e, a1, w1, hq, harr⟩ := h b (.code y :: k) cs
  cases e with
  | normal =>
    obtain ⟨a2, w2, hr, hs⟩ := hq b k cs
    exact ⟨a2, w2, hr, (Steps.one step_seq).trans (Steps.trans harr hs)⟩
  | _ => exact hq.elim
theorem gets_mono {P : Program} {last c : Code} {R R' : Act → World → Prop} {a : Act} {w : World} (h : Gets P last R c a w) (hr : ∀ a w, R a w → R' a w) : Gets P last R' c a w := fun b k cs => by
  obtain ⟨a', w', h1, h2⟩ := h b k cs
  exact ⟨a', w', hr _ _ h1, h2⟩
def tailC : Nat → Code → Code
  | n + 1, .seq _ y => tailC n y
  | _, c => c
/-- the run from a function's entry comes to the last part of its code -/
def GetsF (P : Program) (fn : Func) (n : Nat) (R : Act → World → Prop) (a : Act) (w : World) : Prop := ∀ c, fn.body = some c → Gets P (tailC n c) R c a w
theorem getsF_of {P : Program} {fn : Func} {n : Nat} {R : Act → World → Prop} {a : Act} {w : World} {c : Code} (h : fn.body = some c) (g : Gets P (tailC n c) R c a w) : GetsF P fn n R a w := fun c' hc => by
  rw [h] at hc
  cases hc
  exact g
end Go.Proofs.YtgjhmbbbkkidlaaGreatDoor.hash
