/-
  The starter's last walk: the three answers are the same.
  Conditions: the rows are readable.
-/
import Derived.LoopTactic
import Derived.Deep.QuietTactic
import Derived.BigQuiet
import Derived.Test.YtgjhmbbbkkidlaaGreatDoorXe
namespace Go.Proofs.YtgjhmbbbkkidlaaGreatDoor.hash
open Go.ChangeShapes Go.WideShapes Go.ChangeAt Go.RowKit
open Go.Proofs.YtgjhmbbbkkidlaaGreatDoor.kit
set_option maxHeartbeats 1000000 in
theorem eq8_run (b1 b2 c d : Nat) (l : List Int) (hl : l.length = 8) (w : World) (h1 : Bytes w b1 0 l) (h2 : Bytes w b2 0 l) :
    Calls Tryz.prog 14 #[.slice (some ⟨b1, 0, none⟩) 8 c, .slice (some ⟨b2, 0, none⟩) 8 d] w fun e w' => e = .returned (.bool true) ∧ Kept w w' := by
  have H1 := Lib.hid h1
  have H2 := Lib.hid h2
  have HL := Lib.hid hl
  clear h1 h2 hl
  go_enter Tryz.func14, Tryz.ntmps14
  go_wp2
  go_loopw [5] (fun t wr => ∃ k : Nat, k ≤ 8 ∧ t = .int .i64 k ∧ Kept w wr) (fun t _ => 8 - (intOf t).toNat)
  case atStart => exact ⟨0, by omega, rfl, Kept.refl _⟩
  case round =>
    obtain ⟨k, hk, rfl, hkept⟩ := hrel
    by_cases hlt : k < 8
    · have hck : wr.cell? ⟨b1, k, none⟩ = some (.int .u8 (l.getD k 0)) := by
        have := hkept.cell (H1.out k (by rw [HL.out]; exact hlt))
        rw [Nat.zero_add] at this
        exact this
      have hck2 : wr.cell? ⟨b2, k, none⟩ = some (.int .u8 (l.getD k 0)) := by
        have := hkept.cell (H2.out k (by rw [HL.out]; exact hlt))
        rw [Nat.zero_add] at this
        exact this
      have hki : (k : Int) < 8 := by omega
      have hk0 : (0 : Int) ≤ (k : Int) := by omega
      have HK := Lib.hid hkept
      clear hkept
      generalize l.getD k 0 = x at *
      have hx : (x != x) = false := by simp
      go_wp2
      go_quiet (fail)
      go_wp2
      go_roundw
      case rel => first | exact ⟨k + 1, by omega, by go_num, HK.out.drewN _⟩ | ((repeat apply Exists.intro); exact ⟨⟨k + 1, by omega, by go_num, HK.out.drewN _⟩, rfl⟩)
      case measure => simp [intOf]; omega
    · obtain rfl : k = 8 := by omega
      go_wp2
      go_ret
      exact ⟨rfl, hkept⟩
/-- behind the last region -/
structure Fine (a : Act) (w : World) : Prop where
  ex : a.tmps[12]? = some (.bool true) ∧ a.defers = []
/-- the last region -/
noncomputable def reg23 : Code := match tailC 19 (Tryz.f3.body.getD .skip) with | .seq x _ => x | c => c
set_option maxRecDepth 100000 in
set_option maxHeartbeats 4000000 in
theorem last_gets (T : Array Value) (hT : T.size = 124) (b1 b2 b3 c1 c2 c3 : Nat) (h15 : T[15]? = some (.slice (some ⟨b1, 0, none⟩) 8 c1)) (h16 : T[16]? = some (.slice (some ⟨b2, 0, none⟩) 8 c2)) (h17 : T[17]? = some (.slice (some ⟨b3, 0, none⟩) 8 c3))
    (l : List Int) (hl : l.length = 8) (w : World) (q1 : Bytes w b1 0 l) (q2 : Bytes w b2 0 l) (q3 : Bytes w b3 0 l) : Gets2 Tryz.prog (.refuse "cutcutcutcutcutcutcu") Fine (fun _ _ => False) (.seq reg23 (.refuse "cutcutcutcutcutcutcu")) { tmps := T, defers := [] } w := by
  obtain ⟨u, rfl⟩ : ∃ u : Nat → Value, T = ((List.range 124).map u).toArray := ⟨fun i => T.getD i undef, by
    apply Array.ext
    · simp [hT]
    · intro i h1 h2
      simp [h1]⟩
  have e15 : u 15 = .slice (some ⟨b1, 0, none⟩) 8 c1 := by simpa using h15
  have e16 : u 16 = .slice (some ⟨b2, 0, none⟩) 8 c2 := by simpa using h16
  have e17 : u 17 = .slice (some ⟨b3, 0, none⟩) 8 c3 := by simpa using h17
  clear h15 h16 h17 hT
  simp only [List.range, List.range.loop, List.map, e15, e16, e17]
  clear e15 e16 e17
  refine gets2_seq ?_
  have H1 := Lib.hid (eq8_run b1 b2 c1 c2 l hl w q1 q2)
  have H2 := Lib.hid q2
  have H3 := Lib.hid q3
  have HL := Lib.hid hl
  clear q1 q2 q3 hl
  simp only [reg23, Tryz.f3, Option.getD_some, tailC]
  go_wp2_with (go_at_call 14; refine H1.out.mono ?_; rintro e w1 ⟨rfl, hk⟩; have H4 := Lib.hid (eq8_run b2 b3 c2 c3 l HL.out w1 (H2.out.kept hk) (H3.out.kept hk)); clear H1)
  refine H4.out.mono ?_
  rintro e w2 ⟨rfl, hk2⟩
  go_wp2
  exact gets2_here ⟨rfl, rfl⟩
end Go.Proofs.YtgjhmbbbkkidlaaGreatDoor.hash
