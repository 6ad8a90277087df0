/-
  ZZaddExportsForExportStar over this seat's program: it calls.
  Conditions: none.
-/
import Derived.Test.YtknmcbhcbomjmaaWt
namespace Go.Proofs.Ytknmcbhcbomjmaa.xs
open Go.ChangeShapes Go.WideShapes Go.ChangeAt Go.RowKit
open kit mapv
set_option maxRecDepth 100000 in
set_option maxHeartbeats 4000000 in
theorem door (L : Lay) (s0 : Nat) (A : Apt L) (w : World) (V : ByteArray → Value) (ρ : ByteArray → Option Ent) (R : Nat) (β : Nat → Nat × Nat → Bool) (bn : Nat → Nat) (h : Pre L s0 w [] s0 (.slice none 0 0) V ρ R β bn) :
    Calls Try.prog 9 #[.pointer (some ⟨L.cb, 0, none⟩), .map (some L.RES), .int .u32 (s0 : Int), .slice none 0 0] w (Post L s0 w [] s0 (.slice none 0 0) ρ) := by
  have HC := Lib.hid (star L s0 A L.n w [] s0 none 0 V ρ R β bn (by simp) h)
  clear h
  go_enter Try.func9, Try.ntmps9
  go_wp2_with fail
  refine (HC.out).mono ?_
  rintro e w' hp
  have HP := Lib.hid hp
  obtain rfl := hp.1
  clear hp
  go_wp2_with fail
  go_end0
  exact HP.out
end Go.Proofs.Ytknmcbhcbomjmaa.xs
