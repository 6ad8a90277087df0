/-
  The contract of ZZchunkOrderLess over this seat's program: it answers the lexicographic comparison of (distance, tieBreaker) and lays at most new blocks.
  Conditions: the words fit uint32.
-/
import Derived.Test.YtkmleifkceghlabRows
import Derived.WalkKit
import Derived.ProofKit
import Derived.OpenShut
namespace Go.Proofs.Ytkmleifkceghlab.chunk
open Go.ChangeShapes Go.WideShapes Go.ChangeAt Go.RowKit

def kless (a1 a2 a4 a5 : Int) : Bool := decide (a1 < a4 ∨ (a1 = a4 ∧ a2 < a5))
theorem kless_iff {a1 a2 a4 a5 : Int} : kless a1 a2 a4 a5 = true ↔ (a1 < a4 ∨ (a1 = a4 ∧ a2 < a5)) := by simp [kless]
theorem Grown.trans {a b c : World} (h : Grown a b) (g : Grown b c) : Grown a c :=
  ⟨World.keptBut_trans h.1 (World.keptBut_mono (fun _ f => f.elim) g.1), fun x => (g.2.1 x).trans (h.2.1 x), Nat.le_trans h.2.2 g.2.2⟩

theorem less (a0 a1 a2 a3 a4 a5 : Int) (w : World) :
    Calls Try.prog 18 #[.int .u32 a0, .int .u32 a1, .int .u32 a2, .int .u32 a3, .int .u32 a4, .int .u32 a5] w fun e w' => e = .returned (.bool (kless a1 a2 a4 a5)) ∧ Grown w w' := by
  by_cases h1 : a1 < a4
  · have hk : kless a1 a2 a4 a5 = true := by simp [kless, h1]
    go_enter Try.func18, Try.ntmps18
    go_wp2
    go_ret
    exact ⟨by (first | rfl | (rw [hk]; rfl)), (((Grown.refl _).alloc _ _).alloc _ _).alloc _ _⟩
  · by_cases h2 : a1 = a4
    · subst h2
      by_cases h3 : a2 < a5
      · have hk : kless a1 a2 a1 a5 = true := by simp [kless, h3]
        go_enter Try.func18, Try.ntmps18
        go_wp2
        go_ret
        exact ⟨by (first | rfl | (rw [hk]; rfl)), (((Grown.refl _).alloc _ _).alloc _ _).alloc _ _⟩
      · have hk : kless a1 a2 a1 a5 = false := by simp [kless]; omega
        have hd : decide (a2 < a5) = false := by simpa using h3
        go_enter Try.func18, Try.ntmps18
        go_wp2
        go_ret
        exact ⟨by (first | rfl | (rw [hk]; rfl)), (((Grown.refl _).alloc _ _).alloc _ _).alloc _ _⟩
    · have hk : kless a1 a2 a4 a5 = false := by simp [kless]; omega
      have hb : (a1 == a4) = false := by simpa using h2
      have hd : decide (a1 < a4) = false := by simpa using h1
      go_enter Try.func18, Try.ntmps18
      go_wp2
      go_ret
      exact ⟨by (first | rfl | (rw [hk]; rfl)), (((Grown.refl _).alloc _ _).alloc _ _).alloc _ _⟩
end Go.Proofs.Ytkmleifkceghlab.chunk
