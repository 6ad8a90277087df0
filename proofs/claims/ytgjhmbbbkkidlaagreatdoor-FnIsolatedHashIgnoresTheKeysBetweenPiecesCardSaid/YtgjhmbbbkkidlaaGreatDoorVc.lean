/-
  Words out of bytes.
  Conditions: the bytes are there.
-/
import Derived.Deep.QuietTactic
import Derived.BigQuiet
import Derived.Test.YtgjhmbbbkkidlaaGreatDoorVab
namespace Go.Proofs.YtgjhmbbbkkidlaaGreatDoor.hash
open Go.ChangeShapes Go.WideShapes Go.ChangeAt Go.RowKit
open Go.Proofs.YtgjhmbbbkkidlaaGreatDoor.kit
set_option maxHeartbeats 1000000 in
theorem le8_ex (x0 x1 x2 x3 x4 x5 x6 x7 : Int) : ∃ r : Int, ∀ (w : World) (b o cp : Nat) (hc : 8 ≤ cp) (h0 : w.cell? ⟨b, o, none⟩ = some (.int .u8 x0)) (h1 : w.cell? ⟨b, o + 1, none⟩ = some (.int .u8 x1)) (h2 : w.cell? ⟨b, o + 2, none⟩ = some (.int .u8 x2)) (h3 : w.cell? ⟨b, o + 3, none⟩ = some (.int .u8 x3)) (h4 : w.cell? ⟨b, o + 4, none⟩ = some (.int .u8 x4)) (h5 : w.cell? ⟨b, o + 5, none⟩ = some (.int .u8 x5)) (h6 : w.cell? ⟨b, o + 6, none⟩ = some (.int .u8 x6)) (h7 : w.cell? ⟨b, o + 7, none⟩ = some (.int .u8 x7)),
    Calls Tryz.prog 40 #[.agg #[], .slice (some ⟨b, o, none⟩) 8 cp] w fun e w' => e = .returned (.int .u64 r) ∧ Kept w w' := by
  apply Exists.intro
  intro w b o cp hc h0 h1 h2 h3 h4 h5 h6 h7
  have hk : Kept w (w.alloc (.cells #[] 203)) := (Kept.refl w).alloc _
  have g0 := hk.cell h0
  have g1 := hk.cell h1
  have g2 := hk.cell h2
  have g3 := hk.cell h3
  have g4 := hk.cell h4
  have g5 := hk.cell h5
  have g6 := hk.cell h6
  have g7 := hk.cell h7
  clear h0 h1 h2 h3 h4 h5 h6 h7
  go_enter Tryz.func40, Tryz.ntmps40
  go_wp2
  go_quiet (fail)
  go_wp2
  go_ret
  exact ⟨rfl, hk.drewN _⟩
noncomputable def le8 (x0 x1 x2 x3 x4 x5 x6 x7 : Int) : Int := Classical.choose (le8_ex x0 x1 x2 x3 x4 x5 x6 x7)
set_option maxHeartbeats 1000000 in
theorem u8_calls (x0 x1 x2 x3 x4 x5 x6 x7 : Int) (w : World) (b o cp : Nat) (hc : 8 ≤ cp) (h0 : w.cell? ⟨b, o, none⟩ = some (.int .u8 x0)) (h1 : w.cell? ⟨b, o + 1, none⟩ = some (.int .u8 x1)) (h2 : w.cell? ⟨b, o + 2, none⟩ = some (.int .u8 x2)) (h3 : w.cell? ⟨b, o + 3, none⟩ = some (.int .u8 x3)) (h4 : w.cell? ⟨b, o + 4, none⟩ = some (.int .u8 x4)) (h5 : w.cell? ⟨b, o + 5, none⟩ = some (.int .u8 x5)) (h6 : w.cell? ⟨b, o + 6, none⟩ = some (.int .u8 x6)) (h7 : w.cell? ⟨b, o + 7, none⟩ = some (.int .u8 x7)) :
    Calls Tryz.prog 33 #[.slice (some ⟨b, o, none⟩) 8 cp] w fun e w' => e = .returned (.int .u64 (le8 x0 x1 x2 x3 x4 x5 x6 x7)) ∧ Kept w w' := by
  have hx := Classical.choose_spec (le8_ex x0 x1 x2 x3 x4 x5 x6 x7) w b o cp hc h0 h1 h2 h3 h4 h5 h6 h7
  go_enter Tryz.func33, Tryz.ntmps33
  go_wp2_with (go_at_call 40; refine hx.mono ?_; rintro e w' ⟨rfl, hk⟩)
  go_ret
  exact ⟨rfl, hk⟩
set_option maxHeartbeats 1000000 in
theorem le4_ex (x0 x1 x2 x3 : Int) : ∃ r : Int, ∀ (w : World) (b o cp : Nat) (hc : 4 ≤ cp) (h0 : w.cell? ⟨b, o, none⟩ = some (.int .u8 x0)) (h1 : w.cell? ⟨b, o + 1, none⟩ = some (.int .u8 x1)) (h2 : w.cell? ⟨b, o + 2, none⟩ = some (.int .u8 x2)) (h3 : w.cell? ⟨b, o + 3, none⟩ = some (.int .u8 x3)),
    Calls Tryz.prog 41 #[.agg #[], .slice (some ⟨b, o, none⟩) 4 cp] w fun e w' => e = .returned (.int .u32 r) ∧ Kept w w' := by
  apply Exists.intro
  intro w b o cp hc h0 h1 h2 h3
  have hk : Kept w (w.alloc (.cells #[] 203)) := (Kept.refl w).alloc _
  have g0 := hk.cell h0
  have g1 := hk.cell h1
  have g2 := hk.cell h2
  have g3 := hk.cell h3
  clear h0 h1 h2 h3
  go_enter Tryz.func41, Tryz.ntmps41
  go_wp2
  go_quiet (fail)
  go_wp2
  go_ret
  exact ⟨rfl, hk.drewN _⟩
noncomputable def le4 (x0 x1 x2 x3 : Int) : Int := Classical.choose (le4_ex x0 x1 x2 x3)
set_option maxHeartbeats 1000000 in
theorem u4_calls (x0 x1 x2 x3 : Int) (w : World) (b o cp : Nat) (hc : 4 ≤ cp) (h0 : w.cell? ⟨b, o, none⟩ = some (.int .u8 x0)) (h1 : w.cell? ⟨b, o + 1, none⟩ = some (.int .u8 x1)) (h2 : w.cell? ⟨b, o + 2, none⟩ = some (.int .u8 x2)) (h3 : w.cell? ⟨b, o + 3, none⟩ = some (.int .u8 x3)) :
    Calls Tryz.prog 35 #[.slice (some ⟨b, o, none⟩) 4 cp] w fun e w' => e = .returned (.int .u32 (le4 x0 x1 x2 x3)) ∧ Kept w w' := by
  have hx := Classical.choose_spec (le4_ex x0 x1 x2 x3) w b o cp hc h0 h1 h2 h3
  go_enter Tryz.func35, Tryz.ntmps35
  go_wp2_with (go_at_call 41; refine hx.mono ?_; rintro e w' ⟨rfl, hk⟩)
  go_ret
  exact ⟨rfl, hk⟩
end Go.Proofs.YtgjhmbbbkkidlaaGreatDoor.hash
