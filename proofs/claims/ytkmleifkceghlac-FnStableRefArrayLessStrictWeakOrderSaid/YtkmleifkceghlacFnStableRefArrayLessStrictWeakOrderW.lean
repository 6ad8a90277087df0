/-
  The walk of FnStableRefArrayLessStrictWeakOrder: On any three elements (stableRefArray).Less is irreflexive, asymmetric and transitive, and incomparability is transitive.
  Conditions: none beyond those of the given statement Rows.FnStableRefArrayLessStrictWeakOrderSaid.
-/
import Derived.Test.YtkmleifkceghlacRows
import Derived.WalkKit
import Derived.ProofKit
import Derived.OpenShut
import Derived.ShutString
import Derived.Test.YtkmleifkceghlacStable
import Derived.LoopTactic
namespace Go.Proofs.Ytkmleifkceghlac.fnStableRefArrayLessStrictWeakOrder
open Go.ChangeShapes Go.WideShapes Go.ChangeAt Go.RowKit
open Go.ChangeMaps (open_string shut_string)
set_option linter.unusedVariables false      -- a walk need not use every 'w<i>' (that an integer argument fits its kind)

open kit
def pick3 (a b c : Int) (x : Nat) : Int := if x = 0 then a else if x = 1 then b else c
/-- the answer at places x and y -/
def L (S N : Nat → Int) (x y : Nat) : Bool := stable.kless (S x) (N x) (S y) (N y)
theorem L_iff {S N : Nat → Int} {x y : Nat} : L S N x y = true ↔ (S x < S y ∨ (S x = S y ∧ N x < N y)) := stable.kless_iff
theorem L_not {S N : Nat → Int} {x y : Nat} : L S N x y = false ↔ ¬ (S x < S y ∨ (S x = S y ∧ N x < N y)) := by
  rw [← L_iff]; simp

/-- Less at any two of the three places, in any later world -/
def LessAt (g : Nat) (S N : Nat → Int) (w3 : World) : Prop :=
  ∀ (x y : Nat) (wr : World), x < 3 → y < 3 → Kept w3 wr →
    Calls Try.prog 6 #[.slice (some ⟨g, 0, none⟩) 3 3, .int .i64 (x : Int), .int .i64 (y : Int)] wr fun e w' => e = .returned (.bool (L S N x y)) ∧ Kept w3 w'

theorem lessAt (g : Nat) (S R N : Nat → Int) (w3 : World) (hg : g < w3.heap.size)
    (hc : ∀ x, x < 3 → w3.cell? ⟨g, x * 3, none⟩ = some (.int .u32 (S x)) ∧ w3.cell? ⟨g, x * 3 + 1, none⟩ = some (.int .u32 (R x)) ∧ w3.cell? ⟨g, x * 3 + 2, none⟩ = some (.int .u32 (N x))) : LessAt g S N w3 := by
  intro x y wr hx hy hk
  obtain ⟨x0, x1, x2⟩ := hc x hx
  obtain ⟨y0, y1, y2⟩ := hc y hy
  have hsz := hk.size
  refine (stable.less g 0 3 3 x y (S x) (R x) (N x) (S y) (R y) (N y) wr (by omega) (by omega) (by omega) (by omega) (by omega)
    (by simpa using hk.cell x0) (by simpa using hk.cell x1) (by simpa using hk.cell x2) (by simpa using hk.cell y0) (by simpa using hk.cell y1) (by simpa using hk.cell y2)).mono ?_
  rintro e w' ⟨rfl, h⟩
  exact ⟨rfl, hk.trans h⟩

set_option maxRecDepth 100000 in
set_option maxHeartbeats 8000000 in
theorem walk (a0 : Int) (a1 : Int) (a2 : Int) (a3 : Int) (a4 : Int) (a5 : Int) (a6 : Int) (a7 : Int) (a8 : Int) (w0 : (Lit.int .u32 a0).wf = true) (w1 : (Lit.int .u32 a1).wf = true) (w2 : (Lit.int .u32 a2).wf = true) (w3 : (Lit.int .u32 a3).wf = true) (w4 : (Lit.int .u32 a4).wf = true) (w5 : (Lit.int .u32 a5).wf = true) (w6 : (Lit.int .u32 a6).wf = true) (w7 : (Lit.int .u32 a7).wf = true) (w8 : (Lit.int .u32 a8).wf = true) (w : World) :
    Calls Try.prog 3 #[.int .u32 a0, .int .u32 a1, .int .u32 a2, .int .u32 a3, .int .u32 a4, .int .u32 a5, .int .u32 a6, .int .u32 a7, .int .u32 a8] w fun e w' => e = .returned (.bool true) ∧ Below w.heap.size w w' := by
  clear w0 w1 w2 w3 w4 w5 w6 w7 w8
  go_enter Try.func3, Try.ntmps3
  go_wp2_with fail
  refine (stable.new _ _ _ _).mono ?_
  rintro e v1 ⟨rfl, g1⟩
  go_wp2_with fail
  refine (stable.new _ _ _ _).mono ?_
  rintro e v2 ⟨rfl, g2⟩
  go_wp2_with fail
  refine (stable.new _ _ _ _).mono ?_
  rintro e v3 ⟨rfl, g3⟩
  have hgk := (g1.trans g2).trans g3
  have HG := Lib.hid hgk
  clear g1 g2 g3 hgk
  go_wp2
  have hk0 := Kept.alloc HG.out (Obj.cells #[Value.int IntKind.u32 a0, Value.int IntKind.u32 a1, Value.int IntKind.u32 a2, Value.int IntKind.u32 a3, Value.int IntKind.u32 a4, Value.int IntKind.u32 a5, Value.int IntKind.u32 a6, Value.int IntKind.u32 a7, Value.int IntKind.u32 a8] 26)
  have hla : LessAt v3.heap.size (pick3 a0 a3 a6) (pick3 a2 a5 a8) (v3.alloc (Obj.cells #[Value.int IntKind.u32 a0, Value.int IntKind.u32 a1, Value.int IntKind.u32 a2, Value.int IntKind.u32 a3, Value.int IntKind.u32 a4, Value.int IntKind.u32 a5, Value.int IntKind.u32 a6, Value.int IntKind.u32 a7, Value.int IntKind.u32 a8] 26)) := by
    refine lessAt _ _ (pick3 a1 a4 a7) _ _ (by simp) (fun x hx => ?_)
    have hx3 : x = 0 ∨ x = 1 ∨ x = 2 := by omega
    rcases hx3 with rfl | rfl | rfl <;> simp [pick3]
  generalize pick3 a0 a3 a6 = S at hla
  generalize pick3 a2 a5 a8 = N at hla
  generalize hW : (v3.alloc (Obj.cells #[Value.int IntKind.u32 a0, Value.int IntKind.u32 a1, Value.int IntKind.u32 a2, Value.int IntKind.u32 a3, Value.int IntKind.u32 a4, Value.int IntKind.u32 a5, Value.int IntKind.u32 a6, Value.int IntKind.u32 a7, Value.int IntKind.u32 a8] 26)) = W at *
  have HL := Lib.hid hla
  have HK0 := Lib.hid hk0
  clear hW hla hk0
  generalize v3.heap.size = g at *
  go_loopw [20] (fun t wr => ∃ x : Nat, x ≤ 3 ∧ t = .int .i64 (x : Int) ∧ Kept W wr) (fun t _ => 3 - (intOf t).toNat)
  case atStart => exact ⟨0, by omega, rfl, Kept.refl _⟩
  case round =>
    obtain ⟨x, hx, rfl, hkx⟩ := hrel
    by_cases hltx : x < 3
    · have hirr : L S N x x = false := by rw [L_not]; omega
      go_wp2_with fail
      refine (HL.out x x wr hltx hltx hkx).mono ?_
      rintro e wy ⟨rfl, hky⟩
      rw [hirr]
      clear hirr hkx
      go_wp2
      go_loopw [21] (fun t wr => ∃ y : Nat, y ≤ 3 ∧ t = .int .i64 (y : Int) ∧ Kept W wr) (fun t _ => 3 - (intOf t).toNat)
      case atStart => exact ⟨0, by omega, rfl, hky⟩
      case round =>
        clear hky
        obtain ⟨y, hy, rfl, hky⟩ := hrel
        by_cases hlty : y < 3
        · have pxy := bools (L S N x y)
          have pyx := bools (L S N y x)
          rcases pxy with pxy | pxy <;> rcases pyx with pyx | pyx
          rotate_right
          · exfalso; rw [L_iff] at pxy pyx; omega
          all_goals
            go_wp2_with (go_at_call 6; refine (HL.out _ _ _ (by omega) (by omega) (by assumption)).mono ?_; rintro e wz ⟨rfl, hkz⟩)
            go_loopw [23] (fun t wr => ∃ z : Nat, z ≤ 3 ∧ t = .int .i64 (z : Int) ∧ Kept W wr) (fun t _ => 3 - (intOf t).toNat)
            case atStart => exact ⟨0, by omega, rfl, by assumption⟩
            case round =>
              clear hky
              obtain ⟨z, hz, rfl, hkz⟩ := hrel
              by_cases hltz : z < 3
              · rcases bools (L S N y z) with pyz | pyz <;> rcases bools (L S N z y) with pzy | pzy <;> rcases bools (L S N x z) with pxz | pxz <;> rcases bools (L S N z x) with pzx | pzx <;> first
                  | (exfalso; simp only [L_iff, L_not] at pxy pyx pyz pzy pxz pzx; omega)
                  | skip
                all_goals
                  go_wp2_with (go_at_call 6; refine (HL.out _ _ _ (by omega) (by omega) (by assumption)).mono ?_; rintro e wz ⟨rfl, hkz⟩)
                  go_roundw
                  case rel => first | exact ⟨z + 1, by omega, by go_num, by assumption⟩ | ((repeat apply Exists.intro); exact ⟨⟨z + 1, by omega, by go_num, by assumption⟩, rfl⟩)
                  case measure => simp [intOf]; omega
              · go_wp2
                go_roundw
                case rel => first | exact ⟨y + 1, by omega, by go_num, by assumption⟩ | ((repeat apply Exists.intro); exact ⟨⟨y + 1, by omega, by go_num, by assumption⟩, rfl⟩)
                case measure => simp [intOf]; omega
        · go_wp2
          go_roundw
          case rel => first | exact ⟨x + 1, by omega, by go_num, by assumption⟩ | ((repeat apply Exists.intro); exact ⟨⟨x + 1, by omega, by go_num, by assumption⟩, rfl⟩)
          case measure => simp [intOf]; omega
    · go_wp2
      go_ret
      exact ⟨rfl, (HK0.out.trans hkx).below⟩
end Go.Proofs.Ytkmleifkceghlac.fnStableRefArrayLessStrictWeakOrder
