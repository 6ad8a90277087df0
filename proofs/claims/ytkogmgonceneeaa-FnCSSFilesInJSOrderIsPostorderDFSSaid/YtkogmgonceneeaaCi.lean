/-
  Index32's functions over this seat's program.
  Conditions: none.
-/
import Derived.Test.YtkogmgonceneeaaCa
namespace Go.Proofs.Ytkogmgonceneeaa.css
open Go.ChangeShapes Go.WideShapes Go.ChangeAt Go.RowKit
open kit dfs

theorem make (a : Int) (h0 : 0 ≤ a) (h1 : a ≤ 4294967295) (w : World) :
    Calls Try.prog 13 #[.int .u32 a] w fun e w' => e = .returned (.agg #[.int .u32 (4294967295 - a)]) ∧ Kept w w' := by
  have hx := flip32 a h0 h1
  go_enter Try.func13, Try.ntmps13
  go_wp2
  exact bodyPost_ret (v := .agg #[.int .u32 (4294967295 - a)]) (by simp [results, Try.results13, go_sem]) rfl ⟨rfl, (Kept.refl _).alloc _⟩
theorem get (a : Int) (h0 : 0 ≤ a) (h1 : a ≤ 4294967295) (w : World) :
    Calls Try.prog 18 #[.agg #[.int .u32 a]] w fun e w' => e = .returned (.int .u32 (4294967295 - a)) ∧ Kept w w' := by
  have hx := flip32 a h0 h1
  go_enter Try.func18, Try.ntmps18
  go_wp2
  go_ret
  exact ⟨rfl, (Kept.refl _).alloc _⟩
theorem valid (a : Int) (b : Bool) (hb : (a == 0) = !b) (w : World) :
    Calls Try.prog 17 #[.agg #[.int .u32 a]] w fun e w' => e = .returned (.bool b) ∧ Kept w w' := by
  have h2 : (a != 0) = b := by rw [bne, hb]; simp
  clear hb
  go_enter Try.func17, Try.ntmps17
  go_wp2
  go_ret
  exact ⟨rfl, (Kept.refl _).alloc _⟩
/-- what an Index32 holds: nothing, or a number -/
def ixv (t : Option Nat) : Int := match t with
  | some t => 4294967295 - (t : Int)
  | none => 0
/-- the import's target -/
def tgt (x : Imp) : Option Nat := if x.1 = true then some x.2 else none
def cssT (F : Ct) (f : Nat) : Option Nat := if hasC F f = true then some (cssOf F f) else none
end Go.Proofs.Ytkogmgonceneeaa.css
