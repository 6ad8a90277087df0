/-
  The hash's small functions: each computes a word from words.
  Conditions: none.
-/
import Derived.Test.YtgjhmbbbkkidlaaGreatDoorBlk
namespace Go.Proofs.YtgjhmbbbkkidlaaGreatDoor.hash
open Go.ChangeShapes Go.WideShapes Go.ChangeAt Go.RowKit
open Go.Proofs.YtgjhmbbbkkidlaaGreatDoor.kit
theorem rot1_ex (x : Int) : ∃ r : Int, ∀ w : World, Calls Tryz.prog 38 #[.int .u64 x, .int .i64 1] w fun e w' => e = .returned (.int .u64 r) ∧ w' = w := by
  apply Exists.intro
  intro w
  have hb : bits .and .u64 1 63 = 1 := by kernel_rfl
  go_enter Tryz.func38, Tryz.ntmps38
  go_wp2
  go_ret
  exact ⟨rfl, rfl⟩
noncomputable def rot1 (x : Int) : Int := Classical.choose (rot1_ex x)
theorem rol1_calls (x : Int) (w : World) : Calls Tryz.prog 27 #[.int .u64 x] w fun e w' => e = .returned (.int .u64 (rot1 x)) ∧ w' = w := by
  have h38 := Classical.choose_spec (rot1_ex x)
  go_enter Tryz.func27, Tryz.ntmps27
  go_wp2_with (go_at_call 38; refine (h38 _).mono ?_; rintro e w' ⟨rfl, rfl⟩)
  go_ret
  exact ⟨rfl, rfl⟩
theorem rot7_ex (x : Int) : ∃ r : Int, ∀ w : World, Calls Tryz.prog 38 #[.int .u64 x, .int .i64 7] w fun e w' => e = .returned (.int .u64 r) ∧ w' = w := by
  apply Exists.intro
  intro w
  have hb : bits .and .u64 7 63 = 7 := by kernel_rfl
  go_enter Tryz.func38, Tryz.ntmps38
  go_wp2
  go_ret
  exact ⟨rfl, rfl⟩
noncomputable def rot7 (x : Int) : Int := Classical.choose (rot7_ex x)
theorem rol7_calls (x : Int) (w : World) : Calls Tryz.prog 28 #[.int .u64 x] w fun e w' => e = .returned (.int .u64 (rot7 x)) ∧ w' = w := by
  have h38 := Classical.choose_spec (rot7_ex x)
  go_enter Tryz.func28, Tryz.ntmps28
  go_wp2_with (go_at_call 38; refine (h38 _).mono ?_; rintro e w' ⟨rfl, rfl⟩)
  go_ret
  exact ⟨rfl, rfl⟩
theorem rot12_ex (x : Int) : ∃ r : Int, ∀ w : World, Calls Tryz.prog 38 #[.int .u64 x, .int .i64 12] w fun e w' => e = .returned (.int .u64 r) ∧ w' = w := by
  apply Exists.intro
  intro w
  have hb : bits .and .u64 12 63 = 12 := by kernel_rfl
  go_enter Tryz.func38, Tryz.ntmps38
  go_wp2
  go_ret
  exact ⟨rfl, rfl⟩
noncomputable def rot12 (x : Int) : Int := Classical.choose (rot12_ex x)
theorem rol12_calls (x : Int) (w : World) : Calls Tryz.prog 29 #[.int .u64 x] w fun e w' => e = .returned (.int .u64 (rot12 x)) ∧ w' = w := by
  have h38 := Classical.choose_spec (rot12_ex x)
  go_enter Tryz.func29, Tryz.ntmps29
  go_wp2_with (go_at_call 38; refine (h38 _).mono ?_; rintro e w' ⟨rfl, rfl⟩)
  go_ret
  exact ⟨rfl, rfl⟩
theorem rot18_ex (x : Int) : ∃ r : Int, ∀ w : World, Calls Tryz.prog 38 #[.int .u64 x, .int .i64 18] w fun e w' => e = .returned (.int .u64 r) ∧ w' = w := by
  apply Exists.intro
  intro w
  have hb : bits .and .u64 18 63 = 18 := by kernel_rfl
  go_enter Tryz.func38, Tryz.ntmps38
  go_wp2
  go_ret
  exact ⟨rfl, rfl⟩
noncomputable def rot18 (x : Int) : Int := Classical.choose (rot18_ex x)
theorem rol18_calls (x : Int) (w : World) : Calls Tryz.prog 30 #[.int .u64 x] w fun e w' => e = .returned (.int .u64 (rot18 x)) ∧ w' = w := by
  have h38 := Classical.choose_spec (rot18_ex x)
  go_enter Tryz.func30, Tryz.ntmps30
  go_wp2_with (go_at_call 38; refine (h38 _).mono ?_; rintro e w' ⟨rfl, rfl⟩)
  go_ret
  exact ⟨rfl, rfl⟩
theorem rot27_ex (x : Int) : ∃ r : Int, ∀ w : World, Calls Tryz.prog 38 #[.int .u64 x, .int .i64 27] w fun e w' => e = .returned (.int .u64 r) ∧ w' = w := by
  apply Exists.intro
  intro w
  have hb : bits .and .u64 27 63 = 27 := by kernel_rfl
  go_enter Tryz.func38, Tryz.ntmps38
  go_wp2
  go_ret
  exact ⟨rfl, rfl⟩
noncomputable def rot27 (x : Int) : Int := Classical.choose (rot27_ex x)
theorem rol27_calls (x : Int) (w : World) : Calls Tryz.prog 34 #[.int .u64 x] w fun e w' => e = .returned (.int .u64 (rot27 x)) ∧ w' = w := by
  have h38 := Classical.choose_spec (rot27_ex x)
  go_enter Tryz.func34, Tryz.ntmps34
  go_wp2_with (go_at_call 38; refine (h38 _).mono ?_; rintro e w' ⟨rfl, rfl⟩)
  go_ret
  exact ⟨rfl, rfl⟩
theorem rot23_ex (x : Int) : ∃ r : Int, ∀ w : World, Calls Tryz.prog 38 #[.int .u64 x, .int .i64 23] w fun e w' => e = .returned (.int .u64 r) ∧ w' = w := by
  apply Exists.intro
  intro w
  have hb : bits .and .u64 23 63 = 23 := by kernel_rfl
  go_enter Tryz.func38, Tryz.ntmps38
  go_wp2
  go_ret
  exact ⟨rfl, rfl⟩
noncomputable def rot23 (x : Int) : Int := Classical.choose (rot23_ex x)
theorem rol23_calls (x : Int) (w : World) : Calls Tryz.prog 36 #[.int .u64 x] w fun e w' => e = .returned (.int .u64 (rot23 x)) ∧ w' = w := by
  have h38 := Classical.choose_spec (rot23_ex x)
  go_enter Tryz.func36, Tryz.ntmps36
  go_wp2_with (go_at_call 38; refine (h38 _).mono ?_; rintro e w' ⟨rfl, rfl⟩)
  go_ret
  exact ⟨rfl, rfl⟩
theorem rot11_ex (x : Int) : ∃ r : Int, ∀ w : World, Calls Tryz.prog 38 #[.int .u64 x, .int .i64 11] w fun e w' => e = .returned (.int .u64 r) ∧ w' = w := by
  apply Exists.intro
  intro w
  have hb : bits .and .u64 11 63 = 11 := by kernel_rfl
  go_enter Tryz.func38, Tryz.ntmps38
  go_wp2
  go_ret
  exact ⟨rfl, rfl⟩
noncomputable def rot11 (x : Int) : Int := Classical.choose (rot11_ex x)
theorem rol11_calls (x : Int) (w : World) : Calls Tryz.prog 37 #[.int .u64 x] w fun e w' => e = .returned (.int .u64 (rot11 x)) ∧ w' = w := by
  have h38 := Classical.choose_spec (rot11_ex x)
  go_enter Tryz.func37, Tryz.ntmps37
  go_wp2_with (go_at_call 38; refine (h38 _).mono ?_; rintro e w' ⟨rfl, rfl⟩)
  go_ret
  exact ⟨rfl, rfl⟩
theorem rot31_ex (x : Int) : ∃ r : Int, ∀ w : World, Calls Tryz.prog 38 #[.int .u64 x, .int .i64 31] w fun e w' => e = .returned (.int .u64 r) ∧ w' = w := by
  apply Exists.intro
  intro w
  have hb : bits .and .u64 31 63 = 31 := by kernel_rfl
  go_enter Tryz.func38, Tryz.ntmps38
  go_wp2
  go_ret
  exact ⟨rfl, rfl⟩
noncomputable def rot31 (x : Int) : Int := Classical.choose (rot31_ex x)
theorem rol31_calls (x : Int) (w : World) : Calls Tryz.prog 39 #[.int .u64 x] w fun e w' => e = .returned (.int .u64 (rot31 x)) ∧ w' = w := by
  have h38 := Classical.choose_spec (rot31_ex x)
  go_enter Tryz.func39, Tryz.ntmps39
  go_wp2_with (go_at_call 38; refine (h38 _).mono ?_; rintro e w' ⟨rfl, rfl⟩)
  go_ret
  exact ⟨rfl, rfl⟩
end Go.Proofs.YtgjhmbbbkkidlaaGreatDoor.hash
/-
  The hash's rounds.
  Conditions: none.
-/
namespace Go.Proofs.YtgjhmbbbkkidlaaGreatDoor.hash
open Go.ChangeShapes Go.WideShapes Go.ChangeAt Go.RowKit
open Go.Proofs.YtgjhmbbbkkidlaaGreatDoor.kit
theorem round_ex (a b : Int) : ∃ r : Int, ∀ w : World, Calls Tryz.prog 32 #[.int .u64 a, .int .u64 b] w fun e w' => e = .returned (.int .u64 r) ∧ w' = w := by
  apply Exists.intro
  intro w
  go_enter Tryz.func32, Tryz.ntmps32
  go_wp2_with (go_at_call 39; refine (rol31_calls _ _).mono ?_; rintro e w' ⟨rfl, rfl⟩)
  go_ret
  exact ⟨rfl, rfl⟩
noncomputable def rnd (a b : Int) : Int := Classical.choose (round_ex a b)
theorem round_calls (a b : Int) (w : World) : Calls Tryz.prog 32 #[.int .u64 a, .int .u64 b] w fun e w' => e = .returned (.int .u64 (rnd a b)) ∧ w' = w := Classical.choose_spec (round_ex a b) w
theorem merge_ex (a b : Int) : ∃ r : Int, ∀ w : World, Calls Tryz.prog 31 #[.int .u64 a, .int .u64 b] w fun e w' => e = .returned (.int .u64 r) ∧ w' = w := by
  apply Exists.intro
  intro w
  go_enter Tryz.func31, Tryz.ntmps31
  go_wp2_with (go_at_call 32; refine (round_calls _ _ _).mono ?_; rintro e w' ⟨rfl, rfl⟩)
  go_ret
  exact ⟨rfl, rfl⟩
noncomputable def mrg (a b : Int) : Int := Classical.choose (merge_ex a b)
theorem merge_calls (a b : Int) (w : World) : Calls Tryz.prog 31 #[.int .u64 a, .int .u64 b] w fun e w' => e = .returned (.int .u64 (mrg a b)) ∧ w' = w := Classical.choose_spec (merge_ex a b) w
end Go.Proofs.YtgjhmbbbkkidlaaGreatDoor.hash
