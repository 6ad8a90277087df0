/-
  Contracts of Index32's functions over this seat's program.
  Conditions: none.
-/
import Derived.Test.YtknmcbhcbomjmaaTurn
import Derived.LoopTactic
import Derived.Outline
import Derived.IntWalk
import Derived.Deep.QuietTactic
import Derived.BigQuiet
namespace Go.Proofs.Ytknmcbhcbomjmaa.xs
open Go.ChangeShapes Go.WideShapes Go.ChangeAt Go.RowKit
open kit

theorem make (a : Int) (h0 : 0 ≤ a) (h1 : a ≤ 4294967295) (w : World) :
    Calls Try.prog 12 #[.int .u32 a] w fun e w' => e = .returned (.agg #[.int .u32 (4294967295 - a)]) ∧ Kept w w' := by
  have hx := flip32 a h0 h1
  go_enter Try.func12, Try.ntmps12
  go_wp2
  exact bodyPost_ret (v := .agg #[.int .u32 (4294967295 - a)]) (by simp [results, Try.results12, go_sem]) rfl ⟨rfl, (Kept.refl _).alloc _⟩
theorem get (a : Int) (h0 : 0 ≤ a) (h1 : a ≤ 4294967295) (w : World) :
    Calls Try.prog 16 #[.agg #[.int .u32 a]] w fun e w' => e = .returned (.int .u32 (4294967295 - a)) ∧ Kept w w' := by
  have hx := flip32 a h0 h1
  go_enter Try.func16, Try.ntmps16
  go_wp2
  go_ret
  exact ⟨rfl, (Kept.refl _).alloc _⟩
theorem valid (a : Int) (b : Bool) (hb : (a == 0) = !b) (w : World) :
    Calls Try.prog 15 #[.agg #[.int .u32 a]] w fun e w' => e = .returned (.bool b) ∧ Kept w w' := by
  have h2 : (a != 0) = b := by rw [bne, hb]; simp
  clear hb
  go_enter Try.func15, Try.ntmps15
  go_wp2
  go_ret
  exact ⟨rfl, (Kept.refl _).alloc _⟩

end Go.Proofs.Ytknmcbhcbomjmaa.xs
