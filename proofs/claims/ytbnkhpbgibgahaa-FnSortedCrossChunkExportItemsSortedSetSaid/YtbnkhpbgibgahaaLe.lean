/-
  The contract of (stableRefArray).Less over this seat's program: it compares (StableSourceIndex, InnerIndex) of the two elements, reads only, and lays at most new blocks.
  Conditions: both indices lie in the slice, whose cells are known.
-/
import Derived.Test.YtbnkhpbgibgahaaKit
import Derived.WalkKit
import Derived.ProofKit
import Derived.OpenShut
import Derived.RegionTactic
import Derived.ChangeAlike
import Derived.BigRegion
namespace Go.Proofs.Ytbnkhpbgibgahaa.stable
open Go.ChangeShapes Go.WideShapes Go.ChangeAt Go.RowKit
open kit

def kless (a1 a2 a4 a5 : Int) : Bool := decide (a1 < a4 ∨ (a1 = a4 ∧ a2 < a5))
theorem kless_iff {a1 a2 a4 a5 : Int} : kless a1 a2 a4 a5 = true ↔ (a1 < a4 ∨ (a1 = a4 ∧ a2 < a5)) := by simp [kless]
set_option maxHeartbeats 1000000 in
theorem less (b off len cap : Nat) (i j : Int) (s1 r1 n1 s2 r2 n2 : Int) (w : World) (hb : b < w.heap.size) (hi0 : 0 ≤ i) (hi : i < len) (hj0 : 0 ≤ j) (hj : j < len)
    (c0 : w.cell? ⟨b, off + i.toNat * 3, none⟩ = some (.int .u32 s1)) (c1 : w.cell? ⟨b, off + i.toNat * 3 + 1, none⟩ = some (.int .u32 r1)) (c2 : w.cell? ⟨b, off + i.toNat * 3 + 2, none⟩ = some (.int .u32 n1))
    (d0 : w.cell? ⟨b, off + j.toNat * 3, none⟩ = some (.int .u32 s2)) (d1 : w.cell? ⟨b, off + j.toNat * 3 + 1, none⟩ = some (.int .u32 r2)) (d2 : w.cell? ⟨b, off + j.toNat * 3 + 2, none⟩ = some (.int .u32 n2)) :
    Calls Try.prog 14 #[.slice (some ⟨b, off, none⟩) len cap, .int .i64 i, .int .i64 j] w fun e w' => e = .returned (.bool (kless s1 n1 s2 n2)) ∧ Kept w w' := by
  by_cases h1 : s1 < s2
  · have hk : kless s1 n1 s2 n2 = true := by simp [kless, h1]
    go_enter Try.func14, Try.ntmps14
    go_wp2
    go_region
    all_goals
      go_wp2
      go_ret
      exact ⟨by (first | rfl | (rw [hk]; rfl)), by repeat (first | exact Kept.refl _ | apply Kept.drew | apply Kept.alloc)⟩
  · by_cases h2 : s1 = s2
    · subst h2
      by_cases h3 : n1 < n2
      · have hk : kless s1 n1 s1 n2 = true := by simp [kless, h3]
        go_enter Try.func14, Try.ntmps14
        go_wp2
        go_region
        all_goals
          go_wp2
          go_ret
          exact ⟨by (first | rfl | (rw [hk]; rfl)), by repeat (first | exact Kept.refl _ | apply Kept.drew | apply Kept.alloc)⟩
      · have hk : kless s1 n1 s1 n2 = false := by simp [kless]; omega
        have hd : decide (n1 < n2) = false := by simpa using h3
        go_enter Try.func14, Try.ntmps14
        go_wp2
        go_region
        all_goals
          go_wp2
          go_ret
          exact ⟨by (first | rfl | (rw [hk]; rfl)), by repeat (first | exact Kept.refl _ | apply Kept.drew | apply Kept.alloc)⟩
    · have hk : kless s1 n1 s2 n2 = false := by simp [kless]; omega
      have hb : (s1 == s2) = false := by simpa using h2
      have hd : decide (s1 < s2) = false := by simpa using h1
      go_enter Try.func14, Try.ntmps14
      go_wp2
      go_region
      all_goals
        go_wp2
        go_ret
        exact ⟨by (first | rfl | (rw [hk]; rfl)), by repeat (first | exact Kept.refl _ | apply Kept.drew | apply Kept.alloc)⟩

end Go.Proofs.Ytbnkhpbgibgahaa.stable
