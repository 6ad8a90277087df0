/-
  The shelf's contracts of strings.TrimRight and strings.HasSuffix over this seat's program, in plain declarations (written by the kit's lay-shelf.mjs and lay-plain.mjs), and TrimRight at the law's cutset.
  Conditions: the text is no longer than an int holds.
-/
import Derived.Shelf.Strings.SlTrimAscii
import Derived.Shelf.Strings.Prefix
import Derived.Test.YtolphikbppmobaaDoorMv
import Derived.OwnWalk
import Derived.LoopTactic
namespace Go.Proofs
open Go.Shelf
def Tryd.lays162_ren : Go.Shelf.Ren := ⟨fun | 162 => 9 | 232 => 11 | 227 => 12 | 234 => 13 | 236 => 14 | 228 => 16 | 271 => 17 | 151 => 18 | 120 => 19 | 197 => 20 | 152 => 21 | 260 => 22 | 137 => 23 | 119 => 24 | 224 => 25 | 225 => 26 | 217 => 27 | 266 => 28 | n => n, fun | 9 => 9 | 4 => 4 | 3 => 3 | 5 => 5 | 117 => 31 | 116 => 30 | 0 => 0 | 124 => 34 | 21 => 21 | 105 => 35 | 46 => 42 | 119 => 44 | 139 => 47 | 138 => 46 | n => n, fun | 3 => 0 | 4 => 1 | n => n⟩
theorem Tryd.lays162 : Go.Proofs.Lays.n162 Tryd.prog Tryd.lays162_ren := {
  mixed := by kernel_rfl
  f119 := Tryd.func24.trans (congrArg some (by kernel_rfl))
  f120 := Tryd.func19.trans (congrArg some (by kernel_rfl))
  f137 := Tryd.func23.trans (congrArg some (by kernel_rfl))
  f151 := Tryd.func18.trans (congrArg some (by kernel_rfl))
  f152 := Tryd.func21.trans (congrArg some (by kernel_rfl))
  f162 := Tryd.func9.trans (congrArg some (by kernel_rfl))
  f197 := Tryd.func20.trans (congrArg some (by kernel_rfl))
  f217 := Tryd.func27.trans (congrArg some (by kernel_rfl))
  f224 := Tryd.func25.trans (congrArg some (by kernel_rfl))
  f225 := Tryd.func26.trans (congrArg some (by kernel_rfl))
  f227 := Tryd.func12.trans (congrArg some (by kernel_rfl))
  f228 := Tryd.func16.trans (congrArg some (by kernel_rfl))
  f232 := Tryd.func11.trans (congrArg some (by kernel_rfl))
  f234 := Tryd.func13.trans (congrArg some (by kernel_rfl))
  f236 := Tryd.func14.trans (congrArg some (by kernel_rfl))
  f260 := Tryd.func22.trans (congrArg some (by kernel_rfl))
  f266 := Tryd.func28.trans (congrArg some (by kernel_rfl))
  f271 := Tryd.func17.trans (congrArg some (by kernel_rfl))
  t0 := Tryd.underlying0
  a0 := Tryd.isAgg0
  z0 := Tryd.sizeOf0
  v0 := Tryd.zeroValue0
  t3 := Tryd.underlying3
  a3 := Tryd.isAgg3
  z3 := Tryd.sizeOf3
  v3 := Tryd.zeroValue3
  t4 := Tryd.underlying4
  a4 := Tryd.isAgg4
  z4 := Tryd.sizeOf4
  v4 := Tryd.zeroValue4
  t5 := Tryd.underlying5
  a5 := Tryd.isAgg5
  z5 := Tryd.sizeOf5
  v5 := Tryd.zeroValue5
  t9 := Tryd.underlying9
  a9 := Tryd.isAgg9
  z9 := Tryd.sizeOf9
  v9 := Tryd.zeroValue9
  t21 := Tryd.underlying21
  a21 := Tryd.isAgg21
  z21 := Tryd.sizeOf21
  v21 := Tryd.zeroValue21
  t46 := Tryd.underlying42
  a46 := Tryd.isAgg42
  z46 := Tryd.sizeOf42
  v46 := Tryd.zeroValue42
  t105 := Tryd.underlying35
  a105 := Tryd.isAgg35
  z105 := Tryd.sizeOf35
  v105 := Tryd.zeroValue35
  t116 := Tryd.underlying30
  a116 := Tryd.isAgg30
  z116 := Tryd.sizeOf30
  t117 := Tryd.underlying31
  a117 := Tryd.isAgg31
  z117 := Tryd.sizeOf31
  v117 := Tryd.zeroValue31
  t119 := Tryd.underlying44
  a119 := Tryd.isAgg44
  z119 := Tryd.sizeOf44
  t124 := Tryd.underlying34
  a124 := Tryd.isAgg34
  z124 := Tryd.sizeOf34
  v124 := Tryd.zeroValue34
  t138 := Tryd.underlying46
  a138 := Tryd.isAgg46
  z138 := Tryd.sizeOf46
  v138 := Tryd.zeroValue46
  t139 := Tryd.underlying47
  a139 := Tryd.isAgg47
  z139 := Tryd.sizeOf47
  v139 := Tryd.zeroValue47
  g3 := by kernel_rfl
  g4 := by kernel_rfl }
def Tryd.lays100_ren : Go.Shelf.Ren := ⟨fun | 100 => 10 | 207 => 15 | n => n, fun | 9 => 9 | 4 => 4 | 3 => 3 | n => n, fun | n => n⟩
theorem Tryd.lays100 : Go.Proofs.Lays.n100 Tryd.prog Tryd.lays100_ren := {
  mixed := by kernel_rfl
  f100 := Tryd.func10.trans (congrArg some (by kernel_rfl))
  f207 := Tryd.func15.trans (congrArg some (by kernel_rfl))
  t3 := Tryd.underlying3
  a3 := Tryd.isAgg3
  z3 := Tryd.sizeOf3
  v3 := Tryd.zeroValue3
  t4 := Tryd.underlying4
  a4 := Tryd.isAgg4
  z4 := Tryd.sizeOf4
  v4 := Tryd.zeroValue4
  t9 := Tryd.underlying9
  a9 := Tryd.isAgg9
  z9 := Tryd.sizeOf9
  v9 := Tryd.zeroValue9 }
end Go.Proofs
namespace Go.Proofs.YtolphikbppmobaaDoor.mv
open Go.RowKit Go.Shelf

def CS : ByteArray := ⟨#[32, 9, 13, 10]⟩
def EX : ByteArray := ⟨#[101, 120, 112, 111, 114, 116]⟩
theorem trim (s : ByteArray) (w : World) (hs : s.size ≤ 9223372036854775807) :
    Calls Tryd.prog 9 #[.string s, .string CS] w fun e w' => e = .returned (.string ⟨(Lib.trimRightS s.data.toList cs).toArray⟩) ∧ Below w.heap.size w w' :=
  Any.strings_TrimRight_laid Tryd.lays162 (by kernel_rfl) s CS w hs (by decide) (ascii_of_all (by decide))
theorem suf (s : ByteArray) (w : World) (hs : s.size ≤ 9223372036854775807) :
    Calls Tryd.prog 10 #[.string s, .string EX] w fun e w' => e = .returned (.bool (Lib.hasSuffix s.data.toList ex)) ∧ w' = w :=
  Any.strings_HasSuffix Tryd.lays100 s EX w hs
end Go.Proofs.YtolphikbppmobaaDoor.mv
