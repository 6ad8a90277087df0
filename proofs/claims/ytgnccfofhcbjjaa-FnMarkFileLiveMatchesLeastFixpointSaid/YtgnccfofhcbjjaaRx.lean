/-
  isExternalDynamicImport over this seat's program: no file is an entry point, so it answers no.
  Conditions: the files lie in memory as MemR says.
-/
import Derived.Test.YtgnccfofhcbjjaaRm
import Derived.Test.YtgnccfofhcbjjaaTake
namespace Go.Proofs.Ytgnccfofhcbjjaa.lk
open Go.ChangeShapes Go.WideShapes Go.ChangeAt Go.RowKit
open kit dfs dst

theorem isEntry (w : World) (LB o : Nat) (h : w.cell? ⟨LB, o + 22, none⟩ = some (.int .u8 0)) : Calls Try.prog 29 #[.pointer (some ⟨LB, o, none⟩)] w fun x w' => x = .returned (.bool false) ∧ w = w' := by
  go_enter Try.func29, Try.ntmps29
  go_wp2_with fail
  go_ret
  exact ⟨rfl, rfl⟩
set_option maxRecDepth 100000 in
set_option maxHeartbeats 8000000 in
theorem isExt (w : World) (cb LB ob : Nat) (F : Ct) (J EB PB : Nat → Nat) (d : Nat → Nat) (e : Nat → Nat → Bool) (br kind v : Nat) (t : Int) (h : MemR w cb LB ob F J EB PB d e) (h0 : 0 ≤ t) (h1 : t < (F.length : Int))
    (hk : w.cell? ⟨br, 14, none⟩ = some (.int .u8 (kind : Int))) (hs : w.cell? ⟨br, 10, none⟩ = some (.int .u32 (ixv t))) :
    Calls Try.prog 27 #[.pointer (some ⟨cb, 0, none⟩), .pointer (some ⟨br, 0, none⟩), .int .u32 (v : Int)] w fun x w' => x = .returned (.bool false) ∧ Kept w w' := by
  obtain ⟨c1, c2, c3⟩ := h.ctxc
  have HM := Lib.hid h
  have htop := h.fit.top
  clear h
  by_cases hk3 : kind = 3
  · subst hk3
    rw [ixp h0] at hs
    obtain ⟨k, rfl⟩ := Int.eq_ofNat_of_zero_le h0
    have hlt : k < F.length := by omega
    obtain ⟨_, _, _, _, f5, _⟩ := HM.out.file hlt
    have k0 : (0 : Int) ≤ (k : Int) := by omega
    have k1 : (k : Int) < (F.length : Int) := by omega
    have k2 : (4294967295 : Int) - (4294967295 - (k : Int)) = (k : Int) := by omega
    clear h0 h1
    generalize F.length = n at *
    go_enter Try.func27, Try.ntmps27
    go_wp2_with fail
    refine wp_region_held_drew (S := fun W => W.cell? ⟨cb, 10, none⟩ = some (.slice (some ⟨LB, 0, none⟩) n n) ∧ W.cell? ⟨cb, 0, none⟩ = some (.pointer (some ⟨ob, 0, none⟩)) ∧ W.cell? ⟨ob, 79, none⟩ = some (.bool true) ∧ W.cell? ⟨br, 14, none⟩ = some (.int .u8 3) ∧ W.cell? ⟨br, 10, none⟩ = some (.int .u32 (4294967295 - (k : Int))) ∧ W.cell? ⟨LB, k * 24 + 22, none⟩ = some (.int .u8 0)) (by kernel_rfl) ⟨c1, c2, c3, hk, hs, f5⟩ (fun hHeld => ?_)
    refine takeY 0 (some 7) (.pointer (some ⟨cb, 0, none⟩)) rfl rfl (by kernel_rfl) (by kernel_rfl) (by kernel_rfl) (fun _ _ _ h => h) (by kernel_rfl) ?_ (by assumption) ?_
    · intro W hSW
      try dsimp only at hSW
      obtain ⟨g1, g2, g3, g4, g5, g6⟩ := hSW
      go_simp
    simp only [Act.put, List.setIfInBounds_toArray, List.set_cons_zero, List.set_cons_succ]
    refine takeY 1 (some 8) (.pointer (some ⟨cb, 0, none⟩)) rfl rfl (by kernel_rfl) (by kernel_rfl) (by kernel_rfl) (fun _ _ _ h => h) (by kernel_rfl) ?_ (by assumption) ?_
    · intro W hSW
      try dsimp only at hSW
      obtain ⟨g1, g2, g3, g4, g5, g6⟩ := hSW
      go_simp
    simp only [Act.put, List.setIfInBounds_toArray, List.set_cons_zero, List.set_cons_succ]
    refine takeY 2 (some 9) (.pointer (some ⟨cb, 0, none⟩)) rfl rfl (by kernel_rfl) (by kernel_rfl) (by kernel_rfl) (fun _ _ _ h => h) (by kernel_rfl) ?_ (by assumption) ?_
    · intro W hSW
      try dsimp only at hSW
      obtain ⟨g1, g2, g3, g4, g5, g6⟩ := hSW
      go_simp
    simp only [Act.put, List.setIfInBounds_toArray, List.set_cons_zero, List.set_cons_succ]
    refine takeY 3 (some 10) (.pointer (some ⟨ob, 0, none⟩)) rfl rfl (by kernel_rfl) (by kernel_rfl) (by kernel_rfl) (fun _ _ _ h => h) (by kernel_rfl) ?_ (by assumption) ?_
    · intro W hSW
      try dsimp only at hSW
      obtain ⟨g1, g2, g3, g4, g5, g6⟩ := hSW
      go_simp
    simp only [Act.put, List.setIfInBounds_toArray, List.set_cons_zero, List.set_cons_succ]
    refine takeY 4 (some 11) (.pointer (some ⟨ob, 0, none⟩)) rfl rfl (by kernel_rfl) (by kernel_rfl) (by kernel_rfl) (fun _ _ _ h => h) (by kernel_rfl) ?_ (by assumption) ?_
    · intro W hSW
      try dsimp only at hSW
      obtain ⟨g1, g2, g3, g4, g5, g6⟩ := hSW
      go_simp
    simp only [Act.put, List.setIfInBounds_toArray, List.set_cons_zero, List.set_cons_succ]
    refine takeY 5 (some 12) (.pointer (some ⟨ob, 79, none⟩)) rfl rfl (by kernel_rfl) (by kernel_rfl) (by kernel_rfl) (fun _ _ _ h => h) (by kernel_rfl) ?_ (by assumption) ?_
    · intro W hSW
      try dsimp only at hSW
      obtain ⟨g1, g2, g3, g4, g5, g6⟩ := hSW
      go_simp
    simp only [Act.put, List.setIfInBounds_toArray, List.set_cons_zero, List.set_cons_succ]
    refine takeY 6 (some 13) (.bool true) rfl rfl (by kernel_rfl) (by kernel_rfl) (by kernel_rfl) (fun _ _ _ h => h) (by kernel_rfl) ?_ (by assumption) ?_
    · intro W hSW
      try dsimp only at hSW
      obtain ⟨g1, g2, g3, g4, g5, g6⟩ := hSW
      go_simp
    simp only [Act.put, List.setIfInBounds_toArray, List.set_cons_zero, List.set_cons_succ]
    refine takeY 7 (some 14) (.bool true) rfl rfl (by kernel_rfl) (by kernel_rfl) (by kernel_rfl) (fun _ _ _ h => h) (by kernel_rfl) ?_ (by assumption) ?_
    · intro W hSW
      try dsimp only at hSW
      obtain ⟨g1, g2, g3, g4, g5, g6⟩ := hSW
      go_simp
    simp only [Act.put, List.setIfInBounds_toArray, List.set_cons_zero, List.set_cons_succ]
    refine takeY 8 (some 15) (.pointer (some ⟨br, 0, none⟩)) rfl rfl (by kernel_rfl) (by kernel_rfl) (by kernel_rfl) (fun _ _ _ h => h) (by kernel_rfl) ?_ (by assumption) ?_
    · intro W hSW
      try dsimp only at hSW
      obtain ⟨g1, g2, g3, g4, g5, g6⟩ := hSW
      go_simp
    simp only [Act.put, List.setIfInBounds_toArray, List.set_cons_zero, List.set_cons_succ]
    refine takeY 9 (some 16) (.pointer (some ⟨br, 0, none⟩)) rfl rfl (by kernel_rfl) (by kernel_rfl) (by kernel_rfl) (fun _ _ _ h => h) (by kernel_rfl) ?_ (by assumption) ?_
    · intro W hSW
      try dsimp only at hSW
      obtain ⟨g1, g2, g3, g4, g5, g6⟩ := hSW
      go_simp
    simp only [Act.put, List.setIfInBounds_toArray, List.set_cons_zero, List.set_cons_succ]
    refine takeY 10 (some 17) (.pointer (some ⟨br, 14, none⟩)) rfl rfl (by kernel_rfl) (by kernel_rfl) (by kernel_rfl) (fun _ _ _ h => h) (by kernel_rfl) ?_ (by assumption) ?_
    · intro W hSW
      try dsimp only at hSW
      obtain ⟨g1, g2, g3, g4, g5, g6⟩ := hSW
      go_simp
    simp only [Act.put, List.setIfInBounds_toArray, List.set_cons_zero, List.set_cons_succ]
    refine takeY 11 (some 18) (.int .u8 3) rfl rfl (by kernel_rfl) (by kernel_rfl) (by kernel_rfl) (fun _ _ _ h => h) (by kernel_rfl) ?_ (by assumption) ?_
    · intro W hSW
      try dsimp only at hSW
      obtain ⟨g1, g2, g3, g4, g5, g6⟩ := hSW
      go_simp
    simp only [Act.put, List.setIfInBounds_toArray, List.set_cons_zero, List.set_cons_succ]
    refine takeY 12 (some 19) (.bool true) rfl rfl (by kernel_rfl) (by kernel_rfl) (by kernel_rfl) (fun _ _ _ h => h) (by kernel_rfl) ?_ (by assumption) ?_
    · intro W hSW
      try dsimp only at hSW
      obtain ⟨g1, g2, g3, g4, g5, g6⟩ := hSW
      go_simp
    simp only [Act.put, List.setIfInBounds_toArray, List.set_cons_zero, List.set_cons_succ]
    refine takeY 13 (some 20) (.bool true) rfl rfl (by kernel_rfl) (by kernel_rfl) (by kernel_rfl) (fun _ _ _ h => h) (by kernel_rfl) ?_ (by assumption) ?_
    · intro W hSW
      try dsimp only at hSW
      obtain ⟨g1, g2, g3, g4, g5, g6⟩ := hSW
      go_simp
    simp only [Act.put, List.setIfInBounds_toArray, List.set_cons_zero, List.set_cons_succ]
    refine takeY 14 (some 21) (.bool true) rfl rfl (by kernel_rfl) (by kernel_rfl) (by kernel_rfl) (fun _ _ _ h => h) (by kernel_rfl) ?_ (by assumption) ?_
    · intro W hSW
      try dsimp only at hSW
      obtain ⟨g1, g2, g3, g4, g5, g6⟩ := hSW
      go_simp
    simp only [Act.put, List.setIfInBounds_toArray, List.set_cons_zero, List.set_cons_succ]
    refine takeY 15 (some 22) (.pointer (some ⟨cb, 0, none⟩)) rfl rfl (by kernel_rfl) (by kernel_rfl) (by kernel_rfl) (fun _ _ _ h => h) (by kernel_rfl) ?_ (by assumption) ?_
    · intro W hSW
      try dsimp only at hSW
      obtain ⟨g1, g2, g3, g4, g5, g6⟩ := hSW
      go_simp
    simp only [Act.put, List.setIfInBounds_toArray, List.set_cons_zero, List.set_cons_succ]
    refine takeY 16 (some 23) (.pointer (some ⟨cb, 0, none⟩)) rfl rfl (by kernel_rfl) (by kernel_rfl) (by kernel_rfl) (fun _ _ _ h => h) (by kernel_rfl) ?_ (by assumption) ?_
    · intro W hSW
      try dsimp only at hSW
      obtain ⟨g1, g2, g3, g4, g5, g6⟩ := hSW
      go_simp
    simp only [Act.put, List.setIfInBounds_toArray, List.set_cons_zero, List.set_cons_succ]
    refine takeY 17 (some 24) (.pointer (some ⟨cb, 10, none⟩)) rfl rfl (by kernel_rfl) (by kernel_rfl) (by kernel_rfl) (fun _ _ _ h => h) (by kernel_rfl) ?_ (by assumption) ?_
    · intro W hSW
      try dsimp only at hSW
      obtain ⟨g1, g2, g3, g4, g5, g6⟩ := hSW
      go_simp
    simp only [Act.put, List.setIfInBounds_toArray, List.set_cons_zero, List.set_cons_succ]
    refine takeY 18 (some 25) (.pointer (some ⟨cb, 10, none⟩)) rfl rfl (by kernel_rfl) (by kernel_rfl) (by kernel_rfl) (fun _ _ _ h => h) (by kernel_rfl) ?_ (by assumption) ?_
    · intro W hSW
      try dsimp only at hSW
      obtain ⟨g1, g2, g3, g4, g5, g6⟩ := hSW
      go_simp
    simp only [Act.put, List.setIfInBounds_toArray, List.set_cons_zero, List.set_cons_succ]
    refine takeY 19 (some 26) (.slice (some ⟨LB, 0, none⟩) n n) rfl rfl (by kernel_rfl) (by kernel_rfl) (by kernel_rfl) (fun _ _ _ h => h) (by kernel_rfl) ?_ (by assumption) ?_
    · intro W hSW
      try dsimp only at hSW
      obtain ⟨g1, g2, g3, g4, g5, g6⟩ := hSW
      go_simp
    simp only [Act.put, List.setIfInBounds_toArray, List.set_cons_zero, List.set_cons_succ]
    refine takeY 20 (some 27) (.pointer (some ⟨br, 0, none⟩)) rfl rfl (by kernel_rfl) (by kernel_rfl) (by kernel_rfl) (fun _ _ _ h => h) (by kernel_rfl) ?_ (by assumption) ?_
    · intro W hSW
      try dsimp only at hSW
      obtain ⟨g1, g2, g3, g4, g5, g6⟩ := hSW
      go_simp
    simp only [Act.put, List.setIfInBounds_toArray, List.set_cons_zero, List.set_cons_succ]
    refine takeY 21 (some 28) (.pointer (some ⟨br, 0, none⟩)) rfl rfl (by kernel_rfl) (by kernel_rfl) (by kernel_rfl) (fun _ _ _ h => h) (by kernel_rfl) ?_ (by assumption) ?_
    · intro W hSW
      try dsimp only at hSW
      obtain ⟨g1, g2, g3, g4, g5, g6⟩ := hSW
      go_simp
    simp only [Act.put, List.setIfInBounds_toArray, List.set_cons_zero, List.set_cons_succ]
    refine takeY 22 (some 29) (.pointer (some ⟨br, 10, none⟩)) rfl rfl (by kernel_rfl) (by kernel_rfl) (by kernel_rfl) (fun _ _ _ h => h) (by kernel_rfl) ?_ (by assumption) ?_
    · intro W hSW
      try dsimp only at hSW
      obtain ⟨g1, g2, g3, g4, g5, g6⟩ := hSW
      go_simp
    simp only [Act.put, List.setIfInBounds_toArray, List.set_cons_zero, List.set_cons_succ]
    refine takeY 23 (some 30) (.agg #[.int .u32 (4294967295 - (k : Int))]) rfl rfl (by kernel_rfl) (by kernel_rfl) (by kernel_rfl) (fun _ _ _ h => h) (by kernel_rfl) ?_ (by assumption) ?_
    · intro W hSW
      try dsimp only at hSW
      obtain ⟨g1, g2, g3, g4, g5, g6⟩ := hSW
      go_simp
    simp only [Act.put, List.setIfInBounds_toArray, List.set_cons_zero, List.set_cons_succ]
    refine wpAnyH_ready (rs := [24]) (by kernel_rfl) (by simp) ?_
    refine AllReadyH.cons rfl (fun K hK => ?_) AllReadyH.nil
    go_simp
    go_wp2_with (go_at_call 26; refine (get _ ?_ ?_ _).mono ?_; (omega); (omega); rintro e w5 ⟨rfl, hk5⟩)
    refine hK.out _ _ ⟨hk5.cell c1, hk5.cell c2, hk5.cell c3, hk5.cell hk, hk5.cell hs, hk5.cell f5⟩ (fun hHeld2 => ?_)
    clear hK K
    try simp only [Act.put, List.setIfInBounds_toArray, List.set_cons_zero, List.set_cons_succ]
    refine takeY 25 (some 32) (.pointer (some ⟨LB, k * 24, none⟩)) rfl rfl (by kernel_rfl) (by kernel_rfl) (by kernel_rfl) (fun _ _ _ h => h) (by kernel_rfl) ?_ (by assumption) ?_
    · intro W hSW
      try dsimp only at hSW
      obtain ⟨g1, g2, g3, g4, g5, g6⟩ := hSW
      go_simp
    simp only [Act.put, List.setIfInBounds_toArray, List.set_cons_zero, List.set_cons_succ]
    refine wpAnyH_ready (rs := [26]) (by kernel_rfl) (by simp) ?_
    refine AllReadyH.cons rfl (fun K hK => ?_) AllReadyH.nil
    go_simp
    go_wp2_with (go_at_call 29; refine (isEntry _ LB (k * 24) (hk5.cell f5)).mono ?_; rintro e w6 ⟨rfl, rfl⟩)
    refine hK.out _ _ ⟨hk5.cell c1, hk5.cell c2, hk5.cell c3, hk5.cell hk, hk5.cell hs, hk5.cell f5⟩ (fun hHeld3 => ?_)
    clear hK K
    try simp only [Act.put, List.setIfInBounds_toArray, List.set_cons_zero, List.set_cons_succ]
    refine takeY 27 (some 34) (.bool false) rfl rfl (by kernel_rfl) (by kernel_rfl) (by kernel_rfl) (fun _ _ _ h => h) (by kernel_rfl) ?_ (by assumption) ?_
    · intro W hSW
      try dsimp only at hSW
      obtain ⟨g1, g2, g3, g4, g5, g6⟩ := hSW
      go_simp
    simp only [Act.put, List.setIfInBounds_toArray, List.set_cons_zero, List.set_cons_succ]
    refine takeY 28 (some 35) (.bool false) rfl rfl (by kernel_rfl) (by kernel_rfl) (by kernel_rfl) (fun _ _ _ h => h) (by kernel_rfl) ?_ (by assumption) ?_
    · intro W hSW
      try dsimp only at hSW
      obtain ⟨g1, g2, g3, g4, g5, g6⟩ := hSW
      go_simp
    simp only [Act.put, List.setIfInBounds_toArray, List.set_cons_zero, List.set_cons_succ]
    refine takeS 29 (some 36) rfl rfl (by kernel_rfl) (by kernel_rfl) (by kernel_rfl) (fun _ _ _ h => h) (by kernel_rfl) (by assumption) ?_
    simp only [Act.put, List.setIfInBounds_toArray, List.set_cons_zero, List.set_cons_succ]
    refine takeS 30 (some 37) rfl rfl (by kernel_rfl) (by kernel_rfl) (by kernel_rfl) (fun _ _ _ h => h) (by kernel_rfl) (by assumption) ?_
    simp only [Act.put, List.setIfInBounds_toArray, List.set_cons_zero, List.set_cons_succ]
    refine takeS 31 (some 38) rfl rfl (by kernel_rfl) (by kernel_rfl) (by kernel_rfl) (fun _ _ _ h => h) (by kernel_rfl) (by assumption) ?_
    simp only [Act.put, List.setIfInBounds_toArray, List.set_cons_zero, List.set_cons_succ]
    refine takeS 32 (some 39) rfl rfl (by kernel_rfl) (by kernel_rfl) (by kernel_rfl) (fun _ _ _ h => h) (by kernel_rfl) (by assumption) ?_
    simp only [Act.put, List.setIfInBounds_toArray, List.set_cons_zero, List.set_cons_succ]
    refine takeS 33 (some 40) rfl rfl (by kernel_rfl) (by kernel_rfl) (by kernel_rfl) (fun _ _ _ h => h) (by kernel_rfl) (by assumption) ?_
    simp only [Act.put, List.setIfInBounds_toArray, List.set_cons_zero, List.set_cons_succ]
    refine takeS 34 (some 41) rfl rfl (by kernel_rfl) (by kernel_rfl) (by kernel_rfl) (fun _ _ _ h => h) (by kernel_rfl) (by assumption) ?_
    simp only [Act.put, List.setIfInBounds_toArray, List.set_cons_zero, List.set_cons_succ]
    refine takeS 35 (some 42) rfl rfl (by kernel_rfl) (by kernel_rfl) (by kernel_rfl) (fun _ _ _ h => h) (by kernel_rfl) (by assumption) ?_
    simp only [Act.put, List.setIfInBounds_toArray, List.set_cons_zero, List.set_cons_succ]
    refine takeY 36 (some 43) (.bool false) rfl rfl (by kernel_rfl) (by kernel_rfl) (by kernel_rfl) (fun _ _ _ h => h) (by kernel_rfl) ?_ (by assumption) ?_
    · intro W hSW
      try dsimp only at hSW
      obtain ⟨g1, g2, g3, g4, g5, g6⟩ := hSW
      go_simp
    simp only [Act.put, List.setIfInBounds_toArray, List.set_cons_zero, List.set_cons_succ]
    refine takeY 37 (some 6) (.bool false) rfl rfl (by kernel_rfl) (by kernel_rfl) (by kernel_rfl) (fun _ _ _ h => h) (by kernel_rfl) ?_ (by assumption) ?_
    · intro W hSW
      try dsimp only at hSW
      obtain ⟨g1, g2, g3, g4, g5, g6⟩ := hSW
      go_simp
    simp only [Act.put, List.setIfInBounds_toArray, List.set_cons_zero, List.set_cons_succ]
    refine wpAnyH_done (by kernel_rfl) ?_ _
    clear hHeld hHeld2 hHeld3
    go_wp2_with fail
    go_ret
    exact ⟨rfl, (Kept.refl w).drew.trans hk5⟩
  · have hk4 : ¬ (kind : Int) = 3 := by omega
    clear hs
    go_enter Try.func27, Try.ntmps27
    go_wp2_with fail
    go_quiet (fail)
    go_wp2_with fail
    go_ret
    exact ⟨rfl, (Kept.refl _).drewN _⟩
end Go.Proofs.Ytgnccfofhcbjjaa.lk
