/-
  FnPrintAgreesWithPrintBytes over this seat's program, behind its guards: two printers side by side.
  Conditions: at most 2^20 bytes in all.
-/
import Derived.Test.YtdpljbhbnlcoaaaAg2
import Derived.Test.YtdpljbhbnlcoaaaClone80
import Derived.Test.YtdpljbhbnlcoaaaEqb80
namespace Go.Proofs.Ytdpljbhbnlcoaaa.ag
open Go.ChangeShapes Go.WideShapes Go.ChangeAt Go.RowKit
open kit pr

def New (w : World) (a : Option Addr) (c : Nat) (xs : List Int) (e : Ending) (w2 : World) : Prop :=
  ∃ cs, e = .returned (.pointer (some ⟨w.heap.size, 0, none⟩)) ∧ Pr w2 w.heap.size cs a c xs ∧ Kept w w2
theorem new_of {w : World} {a : Option Addr} {c : Nat} {xs : List Int} (CS : Array Value) (h9 : CS[9]? = some (.slice a xs.length c))
    (hown : w.ownsRow 0 5 1 (.slice a xs.length c) xs.length (xs.map (Value.int .u8))) : New w a c xs (.returned (.pointer (some ⟨w.heap.size, 0, none⟩))) (w.alloc (.cells CS 86)) := by
  refine ⟨CS.toList, rfl, ⟨?_, by simpa [J] using h9, hown.alloc _⟩, (Kept.refl _).alloc _⟩
  have := heap_alloc_new w (.cells CS 86)
  simpa [Blk] using this
/-- a struct built whole, its content under a name -/
theorem wpList_build1 {ops : Array Oper} {rest : List Oper} {o : Oper} {a : Act} {w : World} {Q : Exit → Act → World → Prop} (hg : o.guard = none) (t : TypeId) (parts : Array (Nat × Operand)) (ho : o.op = .build t parts)
    (L : List (Nat × Value)) (hL : (parts.map fun (i, x) => (i, a.eval x)).toList = L) (CS : Array Value) (hCS : Try.prog.built t L = some CS) (h : wpList Try.prog ops Q rest (a.put o.dst (.agg CS)) w) : wpList Try.prog ops Q (o :: rest) a w := by
  refine wpList_build hg t parts ho (by rw [hL, hCS]; rfl) ?_
  rw [hL, hCS]
  exact h
def optA : Array Value := #[.nilFunc, .map none, .map none, .map none, .pointer none, .slice none 0 0, .int .u32 0, .int .u32 0, .int .u32 0, .int .u32 0, .int .u32 0, .int .u32 0, .int .u64 0, .int .i64 0, .int .i64 0, .int .u8 0, .bool false, .bool false, .bool false, .bool false, .int .u8 0, .int .u8 0, .bool false, .bool false, .int .u8 0]
set_option maxRecDepth 100000 in
set_option maxHeartbeats 2000000 in
theorem newP (w : World) (a : Option Addr) (c : Nat) (xs : List Int) (hown : w.ownsRow 0 5 1 (.slice a xs.length c) xs.length (xs.map (Value.int .u8))) :
    Calls Try.prog 8 #[.slice a xs.length c, .bool false, .int .u64 0, .int .i64 0] w (New w a c xs) := by
  have HO := Lib.hid hown
  clear hown
  generalize hl : xs.length = len at *
  have HL := Lib.hid hl
  clear hl
  obtain ⟨CS, hCS, e9⟩ : ∃ CS : Array Value, Try.prog.built 86 [(9, .slice a len c), (12, .agg optA)] = some CS ∧ CS[9]? = some (.slice a len c) := Option.map_eq_some_iff.1 (show (Try.prog.built 86 [(9, .slice a len c), (12, .agg optA)]).map (fun CS => CS[9]?) = some (some (.slice a len c)) by kernel_rfl)
  have HCS := Lib.hid hCS
  have E9 := Lib.hid e9
  clear hCS e9
  go_enter Try.func8, Try.ntmps8
  go_wp2_with (refine wpList_build1 rfl 86 _ rfl [(9, .slice a len c), (12, .agg optA)] ?hL CS HCS.out ?_)
  case hL => kernel_rfl
  go_ret
  exact new_of CS (by rw [HL.out]; exact E9.out) (by rw [HL.out]; exact HO.out)
theorem zzprint (w : World) (g : Nat) (cs : List Value) (a : Option Addr) (c : Nat) (xs : List Int) (s : ByteArray) (h : Pr w g cs a c xs) (hb : xs.length + s.size ≤ 70368744177664) :
    Calls Try.prog 9 #[.pointer (some ⟨g, 0, none⟩), .string s] w (Printed w g cs a xs (bytesOf s)) := by
  have HC := Lib.hid (print w g cs a c xs s h hb)
  clear h
  go_enter Try.func9, Try.ntmps9
  go_wp2_with fail
  refine HC.out.mono ?_
  rintro e w2 ⟨a2, c2, rfl, hp, hs⟩
  have HP := Lib.hid hp
  have HS := Lib.hid hs
  clear hp hs
  go_wp2
  go_end0
  exact ⟨a2, c2, rfl, HP.out, HS.out⟩
theorem zzprintB (w : World) (g : Nat) (cs : List Value) (a : Option Addr) (c : Nat) (xs : List Int) (ad : Addr) (d : Nat) (ys : List Int) (h : Pr w g cs a c xs) (hcell : ∀ j u, (ys.map (Value.int .u8))[j]? = some u → w.cell? (ad.add j) = some u) (hb : xs.length + ys.length ≤ 70368744177664) :
    Calls Try.prog 10 #[.pointer (some ⟨g, 0, none⟩), .slice (some ad) ys.length d] w (Printed w g cs a xs ys) := by
  have HC := Lib.hid (printBytes w g cs a c xs ad d ys h hcell hb)
  clear h hcell
  generalize ys.length = m at *
  go_enter Try.func10, Try.ntmps10
  go_wp2_with fail
  refine HC.out.mono ?_
  rintro e w2 ⟨a2, c2, rfl, hp, hs⟩
  have HP := Lib.hid hp
  have HS := Lib.hid hs
  clear hp hs
  go_wp2
  go_end0
  exact ⟨a2, c2, rfl, HP.out, HS.out⟩
theorem zzjs (w : World) (g : Nat) (cs : List Value) (a : Option Addr) (c : Nat) (xs : List Int) (h : Pr w g cs a c xs) :
    Calls Try.prog 12 #[.pointer (some ⟨g, 0, none⟩)] w fun e w' => e = .returned (.slice a xs.length c) ∧ w = w' := by
  have hc : w.cell? ⟨g, 9, none⟩ = some (.slice a xs.length c) := h.jcell
  clear h
  generalize xs.length = n at *
  go_enter Try.func12, Try.ntmps12
  go_wp2
  go_ret
  exact ⟨rfl, rfl⟩

/-- two printers, apart from each other, all of it newer than block B -/
structure Two (B : Nat) (g1 g2 : Nat) (w : World) (X Y : List Int) (cs1 : List Value) (a1 : Option Addr) (c1 : Nat) (cs2 : List Value) (a2 : Option Addr) (c2 : Nat) : Prop where
  p1 : Pr w g1 cs1 a1 c1 X
  p2 : Pr w g2 cs2 a2 c2 Y
  ne : g1 ≠ g2
  sep : Sep a1 a2
  n12 : a1.map (·.block) ≠ some g2
  n21 : a2.map (·.block) ≠ some g1
  f1 : ∀ k, a1.map (·.block) = some k → B ≤ k
  f2 : ∀ k, a2.map (·.block) = some k → B ≤ k
  l1 : B ≤ g1
  l2 : B ≤ g2
  lB : B ≤ w.heap.size
section
variable {B g1 g2 : Nat} {w w2 : World} {X Y ys : List Int} {cs1 cs2 : List Value} {a1 a2 : Option Addr} {c1 c2 : Nat}
theorem Two.kept (h : Two B g1 g2 w X Y cs1 a1 c1 cs2 a2 c2) (k : Kept w w2) : Two B g1 g2 w2 X Y cs1 a1 c1 cs2 a2 c2 :=
  ⟨h.p1.kept k, h.p2.kept k, h.ne, h.sep, h.n12, h.n21, h.f1, h.f2, h.l1, h.l2, Nat.le_trans h.lB k.size⟩
/-- the first prints -/
theorem Two.first (h : Two B g1 g2 w X Y cs1 a1 c1 cs2 a2 c2) {e : Ending} (p : Printed w g1 cs1 a1 X ys e w2) : ∃ a1' c1', e = .returned (.tuple #[]) ∧ Two B g1 g2 w2 (X ++ ys) Y (cs1.set J (.slice a1' (X ++ ys).length c1')) a1' c1' cs2 a2 c2 ∧ Below B w w2 := by
  obtain ⟨a1', c1', rfl, hp, hs⟩ := p
  refine ⟨a1', c1', rfl, ⟨hp, h.p2.other hs (Ne.symm h.ne) h.n12 (fun k hk => ⟨fun e => h.n21 (by rw [hk, e]), fun e => h.sep k e hk⟩), h.ne, h.sep.new hs.row h.p2.rowLt, ?_, h.n21, hs.from h.f1 h.lB, h.f2, h.l1, h.l2, Nat.le_trans h.lB hs.size⟩, hs.below h.l1 h.f1 h.lB⟩
  exact hs.row.ne h.p2.blk.lt h.n12
theorem Two.flip (h : Two B g1 g2 w X Y cs1 a1 c1 cs2 a2 c2) : Two B g2 g1 w Y X cs2 a2 c2 cs1 a1 c1 :=
  ⟨h.p2, h.p1, h.ne.symm, h.sep.symm, h.n21, h.n12, h.f2, h.f1, h.l2, h.l1, h.lB⟩
theorem Two.second (h : Two B g1 g2 w X Y cs1 a1 c1 cs2 a2 c2) {e : Ending} (p : Printed w g2 cs2 a2 Y ys e w2) : ∃ a2' c2', e = .returned (.tuple #[]) ∧ Two B g1 g2 w2 X (Y ++ ys) cs1 a1 c1 (cs2.set J (.slice a2' (Y ++ ys).length c2')) a2' c2' ∧ Below B w w2 := by
  obtain ⟨a, c, e1, t, b⟩ := h.flip.first p
  exact ⟨a, c, e1, t.flip, b⟩
end
/-- the script's relation -/
def Rel (B g1 g2 n : Nat) (w0 : World) (X : List Int) (ss : List ByteArray) (t : Value) (W : World) : Prop :=
  ∃ k : Nat, k ≤ n ∧ t = .int .i64 (k : Int) ∧ Hid (Below B w0 W ∧ ∃ cs1 a1 c1 cs2 a2 c2, Two B g1 g2 W (X ++ cat ss k) (X ++ cat ss k) cs1 a1 c1 cs2 a2 c2)
end Go.Proofs.Ytdpljbhbnlcoaaa.ag
