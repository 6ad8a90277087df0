/-
  The shelf's contracts of bits.Len, sort.nextPowerOfTwo and xorshift.Next laid at this program (written by the kit's lay-shelf and lay-plain).
  Conditions: none.
-/
import Derived.Shelf.Small.Bits
import Derived.Ground.GgsProg
import Derived.Shelf.SlSortFunc.Xorshift
import Derived.Test.YtbnkhpbgibgahaaProg
namespace Go.Proofs
open Go.Shelf
def Try.lays125_ren : Go.Shelf.Ren := ⟨fun | 125 => 19 | 128 => 21 | 129 => 22 | n => n, fun | 46 => 81 | 3 => 3 | 51 => 29 | 53 => 41 | 4 => 4 | 5 => 5 | 9 => 9 | n => n, fun | n => n⟩
theorem Try.lays125 : Go.Proofs.Lays.n125 Try.prog Try.lays125_ren := {
  mixed := by kernel_rfl
  f125 := Try.func19.trans (congrArg some (by kernel_rfl))
  f128 := Try.func21.trans (congrArg some (by kernel_rfl))
  f129 := Try.func22.trans (congrArg some (by kernel_rfl))
  t3 := Try.underlying3
  a3 := Try.isAgg3
  z3 := Try.sizeOf3
  v3 := Try.zeroValue3
  t4 := Try.underlying4
  a4 := Try.isAgg4
  z4 := Try.sizeOf4
  v4 := Try.zeroValue4
  t5 := Try.underlying5
  a5 := Try.isAgg5
  z5 := Try.sizeOf5
  v5 := Try.zeroValue5
  t9 := Try.underlying9
  a9 := Try.isAgg9
  z9 := Try.sizeOf9
  v9 := Try.zeroValue9
  t46 := Try.underlying81
  a46 := Try.isAgg81
  z46 := Try.sizeOf81
  v46 := Try.zeroValue81
  t51 := Try.underlying29
  a51 := Try.isAgg29
  z51 := Try.sizeOf29
  v51 := Try.zeroValue29
  t53 := Try.underlying41
  a53 := Try.isAgg41
  z53 := Try.sizeOf41
  v53 := Try.zeroValue41 }
theorem Try.bits_Len (x : Int) (w : World) (h0 : 0 ≤ x) (h1 : x ≤ 18446744073709551615) :
    Calls Try.prog 19 #[.int .u64 x] w fun e w' => e = .returned (.int .i64 (Lib.bitLen x.toNat)) ∧ w' = w := Any.bits_Len Try.lays125 x w h0 h1
def Try.laysGg36_ren : Go.Shelf.Ren := ⟨fun | 36 => 33 | n => n, fun | 66 => 100 | 51 => 41 | 0 => 0 | 60 => 94 | 41 => 81 | n => n, fun | n => n⟩
theorem Try.laysGg36 : Go.Proofs.LaysGg.n36 Try.prog Try.laysGg36_ren := {
  mixed := by kernel_rfl
  f36 := Try.func33.trans (congrArg some (by kernel_rfl))
  t0 := Try.underlying0
  a0 := Try.isAgg0
  z0 := Try.sizeOf0
  v0 := Try.zeroValue0
  i0 := by kernel_rfl
  t41 := Try.underlying81
  a41 := Try.isAgg81
  z41 := Try.sizeOf81
  v41 := Try.zeroValue81
  i41 := by kernel_rfl
  t51 := Try.underlying41
  a51 := Try.isAgg41
  z51 := Try.sizeOf41
  v51 := Try.zeroValue41
  i51 := by kernel_rfl
  t60 := Try.underlying94
  a60 := Try.isAgg94
  z60 := Try.sizeOf94
  v60 := Try.zeroValue94
  i60 := by kernel_rfl
  t66 := Try.underlying100
  a66 := Try.isAgg100
  z66 := Try.sizeOf100
  v66 := Try.zeroValue100
  i66 := by kernel_rfl }
open Go.RowKit Go.Lib Go.Sort in
theorem Try.xorshift_Next (rb ro X : Nat) (hX : X < 18446744073709551616) (w : World) (hc : w.cell? ⟨rb, ro, none⟩ = some (.int .u64 X)) (hf : w.frozen? ⟨rb, ro, none⟩ = false) :
    Calls Try.prog 33 #[.pointer (some ⟨rb, ro, none⟩)] w fun e w' => e = .returned (.int .u64 (xorNextN X : Nat)) ∧ w' = (w.setCell ⟨rb, ro, none⟩ (.int .u64 (xorNextN X : Nat))).drewN 3 := Any.xorshift_Next Try.laysGg36 rb ro X hX w hc hf
def Try.laysGg35_ren : Go.Shelf.Ren := ⟨fun | 35 => 32 | 13 => 19 | 24 => 21 | 25 => 22 | n => n, fun | 3 => 3 | 41 => 81 | 49 => 29 | 51 => 41 | 4 => 4 | 5 => 5 | 9 => 9 | n => n, fun | n => n⟩
theorem Try.laysGg35 : Go.Proofs.LaysGg.n35 Try.prog Try.laysGg35_ren := {
  mixed := by kernel_rfl
  f13 := Try.func19.trans (congrArg some (by kernel_rfl))
  f24 := Try.func21.trans (congrArg some (by kernel_rfl))
  f25 := Try.func22.trans (congrArg some (by kernel_rfl))
  f35 := Try.func32.trans (congrArg some (by kernel_rfl))
  t3 := Try.underlying3
  a3 := Try.isAgg3
  z3 := Try.sizeOf3
  v3 := Try.zeroValue3
  i3 := by kernel_rfl
  t4 := Try.underlying4
  a4 := Try.isAgg4
  z4 := Try.sizeOf4
  v4 := Try.zeroValue4
  i4 := by kernel_rfl
  t5 := Try.underlying5
  a5 := Try.isAgg5
  z5 := Try.sizeOf5
  v5 := Try.zeroValue5
  i5 := by kernel_rfl
  t9 := Try.underlying9
  a9 := Try.isAgg9
  z9 := Try.sizeOf9
  v9 := Try.zeroValue9
  i9 := by kernel_rfl
  t41 := Try.underlying81
  a41 := Try.isAgg81
  z41 := Try.sizeOf81
  v41 := Try.zeroValue81
  i41 := by kernel_rfl
  t49 := Try.underlying29
  a49 := Try.isAgg29
  z49 := Try.sizeOf29
  v49 := Try.zeroValue29
  i49 := by kernel_rfl
  t51 := Try.underlying41
  a51 := Try.isAgg41
  z51 := Try.sizeOf41
  v51 := Try.zeroValue41
  i51 := by kernel_rfl }
open Go.RowKit Go.Lib Go.Sort in
theorem Try.nextPowerOfTwo (n : Nat) (hn : n < 4611686018427387904) (w : World) :
    Calls Try.prog 32 #[.int .i64 n] w fun e w' => e = .returned (.int .u64 ((1 <<< bitsLen n : Nat) : Int)) ∧ w' = w := Any.nextPowerOfTwo Try.laysGg35 n hn w
end Go.Proofs
