/-
  The shelf's contract of utf8.EncodeRune laid at this program (written by the kit's lay-shelf and lay-plain).
  Conditions: none.
-/
import Derived.Shelf.Spec.EncodeRune
import Derived.Test.YteoeiklojidgnaaFmtProg
namespace Go.Proofs
open Go.Shelf
def Tryf.laysR30_ren : Go.Shelf.Ren := ⟨fun | 30 => 21 | 47 => 22 | n => n, fun | 30 => 22 | 21 => 21 | 3 => 3 | 27 => 38 | 4 => 4 | 5 => 5 | 0 => 0 | 25 => 43 | n => n, fun | n => n⟩
theorem Tryf.laysR30 : Go.Proofs.Lays7.n30 Tryf.prog Tryf.laysR30_ren := {
  mixed := by kernel_rfl
  f30 := Tryf.func21.trans (congrArg some (by kernel_rfl))
  f47 := Tryf.func22.trans (congrArg some (by kernel_rfl))
  t0 := Tryf.underlying0
  a0 := Tryf.isAgg0
  z0 := Tryf.sizeOf0
  v0 := Tryf.zeroValue0
  i0 := by kernel_rfl
  t3 := Tryf.underlying3
  a3 := Tryf.isAgg3
  z3 := Tryf.sizeOf3
  v3 := Tryf.zeroValue3
  i3 := by kernel_rfl
  t4 := Tryf.underlying4
  a4 := Tryf.isAgg4
  z4 := Tryf.sizeOf4
  v4 := Tryf.zeroValue4
  i4 := by kernel_rfl
  t5 := Tryf.underlying5
  a5 := Tryf.isAgg5
  z5 := Tryf.sizeOf5
  v5 := Tryf.zeroValue5
  i5 := by kernel_rfl
  t21 := Tryf.underlying21
  a21 := Tryf.isAgg21
  z21 := Tryf.sizeOf21
  v21 := Tryf.zeroValue21
  i21 := by kernel_rfl
  t25 := Tryf.underlying43
  a25 := Tryf.isAgg43
  z25 := Tryf.sizeOf43
  v25 := Tryf.zeroValue43
  i25 := by kernel_rfl
  t27 := Tryf.underlying38
  a27 := Tryf.isAgg38
  z27 := Tryf.sizeOf38
  v27 := Tryf.zeroValue38
  i27 := by kernel_rfl
  t30 := Tryf.underlying22
  a30 := Tryf.isAgg22
  z30 := Tryf.sizeOf22
  v30 := Tryf.zeroValue22
  i30 := by kernel_rfl }
end Go.Proofs
