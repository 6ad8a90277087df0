/-
  The digest's Write: the kept bytes are filled up first.
  Conditions: the bytes are there.
-/
import Derived.StillTailTactics
import Derived.Test.YtgjhmbbbkkidlaaGreatDoorLate
import Derived.Test.YtgjhmbbbkkidlaaGreatDoorVfg
namespace Go.Proofs.YtgjhmbbbkkidlaaGreatDoor.hash
open Go.ChangeShapes Go.WideShapes Go.ChangeAt Go.RowKit
open Go.Proofs.YtgjhmbbbkkidlaaGreatDoor.kit
/-- the kept bytes are mixed in -/
noncomputable def fill (s : St) (l : List Int) : St :=
  let m := splice s.mem s.n (l.take (32 - s.n))
  { blk1 { s with mem := m } m 0 with n := 0 }
theorem slice_8 (d lo hi : Nat) (h1 : lo < hi) (h2 : hi ≤ 32) (W : World) : (Instr.sliceAt 192 (.pointer (some ⟨d, 5, none⟩)) (some (.int .i64 lo)) (some (.int .i64 hi)) none).run Tryz.prog W = Result.ok (.slice (some ⟨d, 5 + lo, none⟩) (hi - lo) (32 - lo)) W := by
  have hl : Tryz.prog.arrayLen 192 = 32 := by kernel_rfl
  have ha : Tryz.prog.underlying 192 = some (.array (Tryz.prog.arrayLen 192) (Tryz.prog.elem 192)) := by kernel_rfl
  have he : Tryz.prog.elem 192 = 5 := by kernel_rfl
  have hz : ∀ W : World, (Go.sizeOf 5).run Tryz.prog W = Result.ok 1 W := fun _ => by kernel_rfl
  rw [Go.run_sliceAt_array_lh (ht := ha) (h0 := by omega) (h1 := by omega) (h2 := by omega), he, hz, hl]
  simp only [Result.andThen, Go.slicedAt, Addr.add, Int.toNat_natCast]
  rw [if_neg (by omega), Nat.mul_one]
  by_cases h0 : lo = 0
  · subst h0
    rfl
  · rw [if_neg h0]
theorem _root_.Go.Proofs.YtgjhmbbbkkidlaaGreatDoor.kit.Blk.mem {w : World} {d : Nat} {s : St} (h : Blk w d 194 (enc s)) (hm : s.mem.length = 32) : Bytes w d 5 s.mem := fun i hi => (h.cell (5 + i)).trans (enc_mem hm (by omega))
set_option maxRecDepth 100000 in
set_option maxHeartbeats 4000000 in
theorem write_fill (d cap : Nat) (A : Option Addr) (l : List Int) (w : World) (s : St) (hs : s.mem.length = 32) (hb : Blk w d 194 (enc s)) (hl : Src w d A l cap) (hn0 : 0 < s.n) (hn : s.n < 32) (hlt : 32 ≤ s.n + l.length) :
    Calls Tryz.prog 79 #[.pointer (some ⟨d, 0, none⟩), .slice A l.length cap] w fun e w' => e = .returned (.tuple #[.int .i64 l.length, .nilIface]) ∧ Blk w' d 194 (enc (rest (fill { s with tot := IntKind.u64.wrap (s.tot + l.length) } l) (l.drop (32 - s.n)))) ∧ Turn w w' (· = d) := by
  have c4 : w.cell? ⟨d, 4, none⟩ = some (.int .u64 s.tot) := hb.cell 4
  have f4 := hb.free 4
  have c37 : w.cell? ⟨d, 37, none⟩ = some (.int .i64 s.n) := (hb.cell 37).trans (enc_n hs)
  have hb1 := hb.set 4 (.int .u64 (IntKind.u64.wrap (s.tot + l.length)))
  rw [enc_set5] at hb1
  obtain ⟨hcap1, ⟨hcm, hcap2⟩, hsrc⟩ := hl
  obtain ⟨b, o, rfl, hB, hne⟩ := hsrc (by omega)
  generalize hL : l.length = L at *
  generalize hsR : rest (fill { s with tot := IntKind.u64.wrap (s.tot + L) } l) (l.drop (32 - s.n)) = sR
  have HRR := Lib.hid hsR
  have HB1 := Lib.hid hb1
  have HS := Lib.hid hB
  have HLL := Lib.hid hL
  have hTk : (l.take (32 - s.n)).length = 32 - s.n := by rw [List.length_take, hL]; omega
  have HTK := Lib.hid hTk
  clear hb1 hb hL hB hsrc hsR hTk
  have hsl := slice_mem d s.n hn
  go_enter Tryz.func79, Tryz.ntmps79
  go_wp2
  have c1 : (w.setCell ⟨d, 4, none⟩ (.int .u64 (IntKind.u64.wrap (s.tot + L)))).cell? ⟨d, 37, none⟩ = some (.int .i64 s.n) := (HB1.out.cell 37).trans (enc_n hs)
  have HT : Hid (Turn w (w.setCell ⟨d, 4, none⟩ (.int .u64 (IntKind.u64.wrap (s.tot + L)))) (· = d)) := Lib.hid (turn_set (Turn.refl w _) _ _)
  generalize w.setCell ⟨d, 4, none⟩ (.int .u64 (IntKind.u64.wrap (s.tot + L))) = w1 at *
  go_still_tail 9, (by kernel_rfl)
  change wpList _ _ _ _ _ w1.drew
  have HB2 : Hid (Blk w1.drew d 194 _) := Lib.hid (HB1.out.drew)
  refine wpList_copy_turn rfl (.tmp 55) (.tmp 56) 24 24 rfl 5 Tryz.underlying24 info5 (some ⟨d, 5 + s.n, none⟩) (some ⟨b, o, none⟩) (32 - s.n) (32 - s.n) L cap rfl rfl d (5 + s.n) _ 194 HB2.out ((l.take (32 - s.n)).map byte) (by rw [List.length_map, HTK.out]; exact (Nat.min_eq_right (by omega)).symm) (fun h => ⟨rfl, _, rfl, fun j v hj => ?_⟩) (by rw [enc_len (by exact hs), List.length_map, HTK.out]; omega) ?_ ?_
  · have := (HS.out.turn HT.out.drew hne)
    rw [List.map_take, List.getElem?_take] at hj
    split at hj
    · exact this.at_ hj
    · cases hj
  · intro v hv
    obtain ⟨x, _, rfl⟩ := List.mem_map.1 hv
    rfl
  intro w2 HB3 HT2
  rw [enc_copy (s := { s with tot := IntKind.u64.wrap (s.tot + L) }) (by exact hs) _ _ (by rw [HTK.out]; omega)] at HB3
  have hm2 : (splice s.mem s.n (l.take (32 - s.n))).length = 32 := splice_len hs _ _ (by rw [HTK.out]; omega)
  have HT3 := Lib.hid ((HT.out.drew).trans HT2.out)
  clear HT HT2 HB2
  generalize hmm : splice s.mem s.n (l.take (32 - s.n)) = mm at *
  have Hmm := Lib.hid hmm
  clear hmm
  generalize hs0 : ({ s with tot := IntKind.u64.wrap (s.tot + L), mem := mm } : St) = s0 at *
  have Hs0 := Lib.hid hs0
  have hm0 : s0.mem = mm := by rw [← hs0]
  have hn00 : s0.n = s.n := by rw [← hs0]
  have HB0 := Lib.hid HB3.out
  have HMM := Lib.hid hm2
  clear HB3 hs0
  generalize (goInt ((List.map byte (List.take (32 - s.n) l)).length : Int)) = G
  show wpList _ _ _ [] _ _
  simp only [Act.put]
  clear hsl c1 c4 f4 c37
  go_wp2
  have cc : w2.cell? ⟨d, 0, none⟩ = some (.int .u64 s0.v1) := HB0.out.cell 0
  have HSS := Lib.hid (fun (X : World) (k : Kept w2 X) => (show X.cell? ⟨d, 0, none⟩ = some (.int .u64 s0.v1) ∧ Kept w2 X from ⟨k.cell cc, k⟩))
  have HBB := Lib.hid (fun (X : World) (k : Kept w2 X) => (HB0.out.kept k).mem (by rw [hm0]; exact HMM.out))
  rw [hm0] at HBB
  have hsl := slice_8 d 0 8 (by omega) (by omega)
  refine Late.region (S := (fun X => X.cell? ⟨d, 0, none⟩ = some (.int .u64 s0.v1) ∧ Kept w2 X)) 13 (by kernel_rfl) (HSS.out w2.drew ((Kept.refl w2).drew)) (fun hS0 => ?_)
  refine Late.take 0 (some 58) ?_ rfl rfl (by kernel_rfl) (by kernel_rfl) (by kernel_rfl) (by kernel_rfl) (fun _ _ _ h => h) (by kernel_rfl) (fun W hSW => ?_) hS0 ?_
  rotate_left
  · try dsimp only at hSW
    go_simp
    rfl
  simp only [Act.put, List.setIfInBounds_toArray, List.set_cons_zero, List.set_cons_succ]
  refine Late.take 1 (some 59) ?_ rfl rfl (by kernel_rfl) (by kernel_rfl) (by kernel_rfl) (by kernel_rfl) (fun _ _ _ h => h) (by kernel_rfl) (fun W hSW => ?_) hS0 ?_
  rotate_left
  · try dsimp only at hSW
    go_simp
    rfl
  simp only [Act.put, List.setIfInBounds_toArray, List.set_cons_zero, List.set_cons_succ]
  refine Late.take 2 (some 60) ?_ rfl rfl (by kernel_rfl) (by kernel_rfl) (by kernel_rfl) (by kernel_rfl) (fun _ _ _ h => h) (by kernel_rfl) (fun W hSW => ?_) hS0 ?_
  rotate_left
  · try dsimp only at hSW
    go_simp
    rfl
  simp only [Act.put, List.setIfInBounds_toArray, List.set_cons_zero, List.set_cons_succ]
  refine Late.take 3 (some 61) ?_ rfl rfl (by kernel_rfl) (by kernel_rfl) (by kernel_rfl) (by kernel_rfl) (fun _ _ _ h => h) (by kernel_rfl) (fun W hSW => ?_) hS0 ?_
  rotate_left
  · try dsimp only at hSW
    go_simp
    rfl
  simp only [Act.put, List.setIfInBounds_toArray, List.set_cons_zero, List.set_cons_succ]
  refine Late.take 4 (some 62) ?_ rfl rfl (by kernel_rfl) (by kernel_rfl) (by kernel_rfl) (by kernel_rfl) (fun _ _ _ h => h) (by kernel_rfl) (fun W hSW => ?_) hS0 ?_
  rotate_left
  · try dsimp only at hSW
    go_simp
    rfl
  simp only [Act.put, List.setIfInBounds_toArray, List.set_cons_zero, List.set_cons_succ]
  refine Late.take 5 (some 63) ?_ rfl rfl (by kernel_rfl) (by kernel_rfl) (by kernel_rfl) (by kernel_rfl) (fun _ _ _ h => h) (by kernel_rfl) (fun W hSW => ?_) hS0 ?_
  rotate_left
  · try dsimp only at hSW
    go_simp
    rfl
  simp only [Act.put, List.setIfInBounds_toArray, List.set_cons_zero, List.set_cons_succ]
  refine Late.take 6 (some 64) ?_ rfl rfl (by kernel_rfl) (by kernel_rfl) (by kernel_rfl) (by kernel_rfl) (fun _ _ _ h => h) (by kernel_rfl) (fun W hSW => ?_) hS0 ?_
  rotate_left
  · try dsimp only at hSW
    go_simp
    rfl
  simp only [Act.put, List.setIfInBounds_toArray, List.set_cons_zero, List.set_cons_succ]
  refine Late.take 7 (some 65) ?_ rfl rfl (by kernel_rfl) (by kernel_rfl) (by kernel_rfl) (by kernel_rfl) (fun _ _ _ h => h) (by kernel_rfl) (fun W hSW => ?_) hS0 ?_
  rotate_left
  · try dsimp only at hSW
    go_simp
    rfl
  simp only [Act.put, List.setIfInBounds_toArray, List.set_cons_zero, List.set_cons_succ]
  refine Late.take 8 (some 66) ?_ rfl rfl (by kernel_rfl) (by kernel_rfl) (by kernel_rfl) (by kernel_rfl) (fun _ _ _ h => h) (by kernel_rfl) (fun W hSW => ?_) hS0 ?_
  rotate_left
  · try dsimp only at hSW
    go_simp
    rfl
  simp only [Act.put, List.setIfInBounds_toArray, List.set_cons_zero, List.set_cons_succ]
  refine Late.ready (rs := [9]) (by kernel_rfl) (by simp) ?_
  refine LateAll.cons rfl (fun K hK => ?_) (LateAll.nil)
  go_simp
  refine (u64_at (HBB.out _ ((Kept.refl w2).drew)) 0 (by rw [HMM.out]; decide) _ (by decide) _ rfl).mono ?_
  rintro e wa ⟨rfl, hka⟩
  have kka : Kept w2 wa := ((Kept.refl w2).drew).trans hka
  refine hK.out _ _ (HSS.out wa kka) (fun hS1 => ?_)
  clear hK K
  try simp only [Act.put, List.setIfInBounds_toArray, List.set_cons_zero, List.set_cons_succ]
  refine Late.ready (rs := [10]) (by kernel_rfl) (by simp) ?_
  refine LateAll.cons rfl (fun K hK => ?_) (LateAll.nil)
  go_simp
  refine (round_calls _ _ _).mono ?_
  rintro e wb ⟨rfl, rfl⟩
  refine hK.out _ _ (HSS.out wb kka) (fun hS2 => ?_)
  clear hK K
  try simp only [Act.put, List.setIfInBounds_toArray, List.set_cons_zero, List.set_cons_succ]
  have ff := (HB0.out.kept kka).free 0
  refine Late.ready (rs := [11]) (by kernel_rfl) (by simp) ?_
  refine LateAll.cons rfl (fun K hK => ?_) (LateAll.nil)
  go_simp
  refine hK.out _ _ (HSS.out wb kka) (fun hS3 => ?_)
  clear hK K
  try simp only [Act.put, List.setIfInBounds_toArray, List.set_cons_zero, List.set_cons_succ]
  refine Late.take 12 (some 70) ?_ rfl rfl (by kernel_rfl) (by kernel_rfl) (by kernel_rfl) (by kernel_rfl) (fun _ _ _ h => h) (by kernel_rfl) (fun W hSW => ?_) hS3 ?_
  rotate_left
  · try dsimp only at hSW
    go_simp
    rfl
  simp only [Act.put, List.setIfInBounds_toArray, List.set_cons_zero, List.set_cons_succ]
  refine Late.ready (rs := [13]) (by kernel_rfl) (by simp) ?_
  refine LateAll.last rfl (fun K hK => ?_)
  go_simp
  refine hK.out _ _ ?_
  clear hK K
  refine Late.done (by kernel_rfl) ?_ _
  have hbj := (HB0.out.kept kka).set 0 (.int .u64 (rnd s0.v1 (le8at mm 0)))
  rw [enc_set1] at hbj
  have HT4 := Lib.hid (turn_set (HT3.out.kept kka) 0 (.int .u64 (rnd s0.v1 (le8at mm 0))))
  generalize wb.setCell ⟨d, 0, none⟩ (.int .u64 (rnd s0.v1 (le8at mm 0))) = w3 at *
  have hm1 : ({ s0 with v1 := rnd s0.v1 (le8at mm 0) } : St).mem = mm := hm0
  have hn01 : ({ s0 with v1 := rnd s0.v1 (le8at mm 0) } : St).n = s.n := hn00
  generalize hsj : ({ s0 with v1 := rnd s0.v1 (le8at mm 0) } : St) = s1 at *
  have HV1 := Lib.hid hsj
  have HB1 := Lib.hid hbj
  clear hsj hbj hka kka hS0 hS1 hS2 hS3 ff cc HSS HBB hsl
  go_wp2
  have cc : w3.cell? ⟨d, 1, none⟩ = some (.int .u64 s1.v2) := HB1.out.cell 1
  have HSS := Lib.hid (fun (X : World) (k : Kept w3 X) => (show X.cell? ⟨d, 1, none⟩ = some (.int .u64 s1.v2) ∧ Kept w3 X from ⟨k.cell cc, k⟩))
  have HBB := Lib.hid (fun (X : World) (k : Kept w3 X) => (HB1.out.kept k).mem (by rw [hm1]; exact HMM.out))
  rw [hm1] at HBB
  have hsl := slice_8 d 8 16 (by omega) (by omega)
  refine Late.region (S := (fun X => X.cell? ⟨d, 1, none⟩ = some (.int .u64 s1.v2) ∧ Kept w3 X)) 13 (by kernel_rfl) (HSS.out w3.drew ((Kept.refl w3).drew)) (fun hS0 => ?_)
  refine Late.take 0 (some 71) ?_ rfl rfl (by kernel_rfl) (by kernel_rfl) (by kernel_rfl) (by kernel_rfl) (fun _ _ _ h => h) (by kernel_rfl) (fun W hSW => ?_) hS0 ?_
  rotate_left
  · try dsimp only at hSW
    go_simp
    rfl
  simp only [Act.put, List.setIfInBounds_toArray, List.set_cons_zero, List.set_cons_succ]
  refine Late.take 1 (some 72) ?_ rfl rfl (by kernel_rfl) (by kernel_rfl) (by kernel_rfl) (by kernel_rfl) (fun _ _ _ h => h) (by kernel_rfl) (fun W hSW => ?_) hS0 ?_
  rotate_left
  · try dsimp only at hSW
    go_simp
    rfl
  simp only [Act.put, List.setIfInBounds_toArray, List.set_cons_zero, List.set_cons_succ]
  refine Late.take 2 (some 73) ?_ rfl rfl (by kernel_rfl) (by kernel_rfl) (by kernel_rfl) (by kernel_rfl) (fun _ _ _ h => h) (by kernel_rfl) (fun W hSW => ?_) hS0 ?_
  rotate_left
  · try dsimp only at hSW
    go_simp
    rfl
  simp only [Act.put, List.setIfInBounds_toArray, List.set_cons_zero, List.set_cons_succ]
  refine Late.take 3 (some 74) ?_ rfl rfl (by kernel_rfl) (by kernel_rfl) (by kernel_rfl) (by kernel_rfl) (fun _ _ _ h => h) (by kernel_rfl) (fun W hSW => ?_) hS0 ?_
  rotate_left
  · try dsimp only at hSW
    go_simp
    rfl
  simp only [Act.put, List.setIfInBounds_toArray, List.set_cons_zero, List.set_cons_succ]
  refine Late.take 4 (some 75) ?_ rfl rfl (by kernel_rfl) (by kernel_rfl) (by kernel_rfl) (by kernel_rfl) (fun _ _ _ h => h) (by kernel_rfl) (fun W hSW => ?_) hS0 ?_
  rotate_left
  · try dsimp only at hSW
    go_simp
    rfl
  simp only [Act.put, List.setIfInBounds_toArray, List.set_cons_zero, List.set_cons_succ]
  refine Late.take 5 (some 76) ?_ rfl rfl (by kernel_rfl) (by kernel_rfl) (by kernel_rfl) (by kernel_rfl) (fun _ _ _ h => h) (by kernel_rfl) (fun W hSW => ?_) hS0 ?_
  rotate_left
  · try dsimp only at hSW
    go_simp
    rfl
  simp only [Act.put, List.setIfInBounds_toArray, List.set_cons_zero, List.set_cons_succ]
  refine Late.take 6 (some 77) ?_ rfl rfl (by kernel_rfl) (by kernel_rfl) (by kernel_rfl) (by kernel_rfl) (fun _ _ _ h => h) (by kernel_rfl) (fun W hSW => ?_) hS0 ?_
  rotate_left
  · try dsimp only at hSW
    go_simp
    rfl
  simp only [Act.put, List.setIfInBounds_toArray, List.set_cons_zero, List.set_cons_succ]
  refine Late.take 7 (some 78) ?_ rfl rfl (by kernel_rfl) (by kernel_rfl) (by kernel_rfl) (by kernel_rfl) (fun _ _ _ h => h) (by kernel_rfl) (fun W hSW => ?_) hS0 ?_
  rotate_left
  · try dsimp only at hSW
    go_simp
    rfl
  simp only [Act.put, List.setIfInBounds_toArray, List.set_cons_zero, List.set_cons_succ]
  refine Late.take 8 (some 79) ?_ rfl rfl (by kernel_rfl) (by kernel_rfl) (by kernel_rfl) (by kernel_rfl) (fun _ _ _ h => h) (by kernel_rfl) (fun W hSW => ?_) hS0 ?_
  rotate_left
  · try dsimp only at hSW
    go_simp
    rfl
  simp only [Act.put, List.setIfInBounds_toArray, List.set_cons_zero, List.set_cons_succ]
  refine Late.ready (rs := [9]) (by kernel_rfl) (by simp) ?_
  refine LateAll.cons rfl (fun K hK => ?_) (LateAll.nil)
  go_simp
  refine (u64_at (HBB.out _ ((Kept.refl w3).drew)) 8 (by rw [HMM.out]; decide) _ (by decide) _ rfl).mono ?_
  rintro e wa ⟨rfl, hka⟩
  have kka : Kept w3 wa := ((Kept.refl w3).drew).trans hka
  refine hK.out _ _ (HSS.out wa kka) (fun hS1 => ?_)
  clear hK K
  try simp only [Act.put, List.setIfInBounds_toArray, List.set_cons_zero, List.set_cons_succ]
  refine Late.ready (rs := [10]) (by kernel_rfl) (by simp) ?_
  refine LateAll.cons rfl (fun K hK => ?_) (LateAll.nil)
  go_simp
  refine (round_calls _ _ _).mono ?_
  rintro e wb ⟨rfl, rfl⟩
  refine hK.out _ _ (HSS.out wb kka) (fun hS2 => ?_)
  clear hK K
  try simp only [Act.put, List.setIfInBounds_toArray, List.set_cons_zero, List.set_cons_succ]
  have ff := (HB1.out.kept kka).free 1
  refine Late.ready (rs := [11]) (by kernel_rfl) (by simp) ?_
  refine LateAll.cons rfl (fun K hK => ?_) (LateAll.nil)
  go_simp
  refine hK.out _ _ (HSS.out wb kka) (fun hS3 => ?_)
  clear hK K
  try simp only [Act.put, List.setIfInBounds_toArray, List.set_cons_zero, List.set_cons_succ]
  refine Late.take 12 (some 83) ?_ rfl rfl (by kernel_rfl) (by kernel_rfl) (by kernel_rfl) (by kernel_rfl) (fun _ _ _ h => h) (by kernel_rfl) (fun W hSW => ?_) hS3 ?_
  rotate_left
  · try dsimp only at hSW
    go_simp
    rfl
  simp only [Act.put, List.setIfInBounds_toArray, List.set_cons_zero, List.set_cons_succ]
  refine Late.ready (rs := [13]) (by kernel_rfl) (by simp) ?_
  refine LateAll.last rfl (fun K hK => ?_)
  go_simp
  refine hK.out _ _ ?_
  clear hK K
  refine Late.done (by kernel_rfl) ?_ _
  have hbj := (HB1.out.kept kka).set 1 (.int .u64 (rnd s1.v2 (le8at mm 8)))
  rw [enc_set2] at hbj
  have HT5 := Lib.hid (turn_set (HT4.out.kept kka) 1 (.int .u64 (rnd s1.v2 (le8at mm 8))))
  generalize wb.setCell ⟨d, 1, none⟩ (.int .u64 (rnd s1.v2 (le8at mm 8))) = w4 at *
  have hm2 : ({ s1 with v2 := rnd s1.v2 (le8at mm 8) } : St).mem = mm := hm1
  have hn02 : ({ s1 with v2 := rnd s1.v2 (le8at mm 8) } : St).n = s.n := hn01
  generalize hsj : ({ s1 with v2 := rnd s1.v2 (le8at mm 8) } : St) = s2 at *
  have HV2 := Lib.hid hsj
  have HB2 := Lib.hid hbj
  clear hsj hbj hka kka hS0 hS1 hS2 hS3 ff cc HSS HBB hsl
  go_wp2
  have cc : w4.cell? ⟨d, 2, none⟩ = some (.int .u64 s2.v3) := HB2.out.cell 2
  have HSS := Lib.hid (fun (X : World) (k : Kept w4 X) => (show X.cell? ⟨d, 2, none⟩ = some (.int .u64 s2.v3) ∧ Kept w4 X from ⟨k.cell cc, k⟩))
  have HBB := Lib.hid (fun (X : World) (k : Kept w4 X) => (HB2.out.kept k).mem (by rw [hm2]; exact HMM.out))
  rw [hm2] at HBB
  have hsl := slice_8 d 16 24 (by omega) (by omega)
  refine Late.region (S := (fun X => X.cell? ⟨d, 2, none⟩ = some (.int .u64 s2.v3) ∧ Kept w4 X)) 13 (by kernel_rfl) (HSS.out w4.drew ((Kept.refl w4).drew)) (fun hS0 => ?_)
  refine Late.take 0 (some 84) ?_ rfl rfl (by kernel_rfl) (by kernel_rfl) (by kernel_rfl) (by kernel_rfl) (fun _ _ _ h => h) (by kernel_rfl) (fun W hSW => ?_) hS0 ?_
  rotate_left
  · try dsimp only at hSW
    go_simp
    rfl
  simp only [Act.put, List.setIfInBounds_toArray, List.set_cons_zero, List.set_cons_succ]
  refine Late.take 1 (some 85) ?_ rfl rfl (by kernel_rfl) (by kernel_rfl) (by kernel_rfl) (by kernel_rfl) (fun _ _ _ h => h) (by kernel_rfl) (fun W hSW => ?_) hS0 ?_
  rotate_left
  · try dsimp only at hSW
    go_simp
    rfl
  simp only [Act.put, List.setIfInBounds_toArray, List.set_cons_zero, List.set_cons_succ]
  refine Late.take 2 (some 86) ?_ rfl rfl (by kernel_rfl) (by kernel_rfl) (by kernel_rfl) (by kernel_rfl) (fun _ _ _ h => h) (by kernel_rfl) (fun W hSW => ?_) hS0 ?_
  rotate_left
  · try dsimp only at hSW
    go_simp
    rfl
  simp only [Act.put, List.setIfInBounds_toArray, List.set_cons_zero, List.set_cons_succ]
  refine Late.take 3 (some 87) ?_ rfl rfl (by kernel_rfl) (by kernel_rfl) (by kernel_rfl) (by kernel_rfl) (fun _ _ _ h => h) (by kernel_rfl) (fun W hSW => ?_) hS0 ?_
  rotate_left
  · try dsimp only at hSW
    go_simp
    rfl
  simp only [Act.put, List.setIfInBounds_toArray, List.set_cons_zero, List.set_cons_succ]
  refine Late.take 4 (some 88) ?_ rfl rfl (by kernel_rfl) (by kernel_rfl) (by kernel_rfl) (by kernel_rfl) (fun _ _ _ h => h) (by kernel_rfl) (fun W hSW => ?_) hS0 ?_
  rotate_left
  · try dsimp only at hSW
    go_simp
    rfl
  simp only [Act.put, List.setIfInBounds_toArray, List.set_cons_zero, List.set_cons_succ]
  refine Late.take 5 (some 89) ?_ rfl rfl (by kernel_rfl) (by kernel_rfl) (by kernel_rfl) (by kernel_rfl) (fun _ _ _ h => h) (by kernel_rfl) (fun W hSW => ?_) hS0 ?_
  rotate_left
  · try dsimp only at hSW
    go_simp
    rfl
  simp only [Act.put, List.setIfInBounds_toArray, List.set_cons_zero, List.set_cons_succ]
  refine Late.take 6 (some 90) ?_ rfl rfl (by kernel_rfl) (by kernel_rfl) (by kernel_rfl) (by kernel_rfl) (fun _ _ _ h => h) (by kernel_rfl) (fun W hSW => ?_) hS0 ?_
  rotate_left
  · try dsimp only at hSW
    go_simp
    rfl
  simp only [Act.put, List.setIfInBounds_toArray, List.set_cons_zero, List.set_cons_succ]
  refine Late.take 7 (some 91) ?_ rfl rfl (by kernel_rfl) (by kernel_rfl) (by kernel_rfl) (by kernel_rfl) (fun _ _ _ h => h) (by kernel_rfl) (fun W hSW => ?_) hS0 ?_
  rotate_left
  · try dsimp only at hSW
    go_simp
    rfl
  simp only [Act.put, List.setIfInBounds_toArray, List.set_cons_zero, List.set_cons_succ]
  refine Late.take 8 (some 92) ?_ rfl rfl (by kernel_rfl) (by kernel_rfl) (by kernel_rfl) (by kernel_rfl) (fun _ _ _ h => h) (by kernel_rfl) (fun W hSW => ?_) hS0 ?_
  rotate_left
  · try dsimp only at hSW
    go_simp
    rfl
  simp only [Act.put, List.setIfInBounds_toArray, List.set_cons_zero, List.set_cons_succ]
  refine Late.ready (rs := [9]) (by kernel_rfl) (by simp) ?_
  refine LateAll.cons rfl (fun K hK => ?_) (LateAll.nil)
  go_simp
  refine (u64_at (HBB.out _ ((Kept.refl w4).drew)) 16 (by rw [HMM.out]; decide) _ (by decide) _ rfl).mono ?_
  rintro e wa ⟨rfl, hka⟩
  have kka : Kept w4 wa := ((Kept.refl w4).drew).trans hka
  refine hK.out _ _ (HSS.out wa kka) (fun hS1 => ?_)
  clear hK K
  try simp only [Act.put, List.setIfInBounds_toArray, List.set_cons_zero, List.set_cons_succ]
  refine Late.ready (rs := [10]) (by kernel_rfl) (by simp) ?_
  refine LateAll.cons rfl (fun K hK => ?_) (LateAll.nil)
  go_simp
  refine (round_calls _ _ _).mono ?_
  rintro e wb ⟨rfl, rfl⟩
  refine hK.out _ _ (HSS.out wb kka) (fun hS2 => ?_)
  clear hK K
  try simp only [Act.put, List.setIfInBounds_toArray, List.set_cons_zero, List.set_cons_succ]
  have ff := (HB2.out.kept kka).free 2
  refine Late.ready (rs := [11]) (by kernel_rfl) (by simp) ?_
  refine LateAll.cons rfl (fun K hK => ?_) (LateAll.nil)
  go_simp
  refine hK.out _ _ (HSS.out wb kka) (fun hS3 => ?_)
  clear hK K
  try simp only [Act.put, List.setIfInBounds_toArray, List.set_cons_zero, List.set_cons_succ]
  refine Late.take 12 (some 96) ?_ rfl rfl (by kernel_rfl) (by kernel_rfl) (by kernel_rfl) (by kernel_rfl) (fun _ _ _ h => h) (by kernel_rfl) (fun W hSW => ?_) hS3 ?_
  rotate_left
  · try dsimp only at hSW
    go_simp
    rfl
  simp only [Act.put, List.setIfInBounds_toArray, List.set_cons_zero, List.set_cons_succ]
  refine Late.ready (rs := [13]) (by kernel_rfl) (by simp) ?_
  refine LateAll.last rfl (fun K hK => ?_)
  go_simp
  refine hK.out _ _ ?_
  clear hK K
  refine Late.done (by kernel_rfl) ?_ _
  have hbj := (HB2.out.kept kka).set 2 (.int .u64 (rnd s2.v3 (le8at mm 16)))
  rw [enc_set3] at hbj
  have HT6 := Lib.hid (turn_set (HT5.out.kept kka) 2 (.int .u64 (rnd s2.v3 (le8at mm 16))))
  generalize wb.setCell ⟨d, 2, none⟩ (.int .u64 (rnd s2.v3 (le8at mm 16))) = w5 at *
  have hm3 : ({ s2 with v3 := rnd s2.v3 (le8at mm 16) } : St).mem = mm := hm2
  have hn03 : ({ s2 with v3 := rnd s2.v3 (le8at mm 16) } : St).n = s.n := hn02
  generalize hsj : ({ s2 with v3 := rnd s2.v3 (le8at mm 16) } : St) = s3 at *
  have HV3 := Lib.hid hsj
  have HB3 := Lib.hid hbj
  clear hsj hbj hka kka hS0 hS1 hS2 hS3 ff cc HSS HBB hsl
  go_wp2
  have cc : w5.cell? ⟨d, 3, none⟩ = some (.int .u64 s3.v4) := HB3.out.cell 3
  have HSS := Lib.hid (fun (X : World) (k : Kept w5 X) => (show X.cell? ⟨d, 3, none⟩ = some (.int .u64 s3.v4) ∧ Kept w5 X from ⟨k.cell cc, k⟩))
  have HBB := Lib.hid (fun (X : World) (k : Kept w5 X) => (HB3.out.kept k).mem (by rw [hm3]; exact HMM.out))
  rw [hm3] at HBB
  have hsl := slice_8 d 24 32 (by omega) (by omega)
  refine Late.region (S := (fun X => X.cell? ⟨d, 3, none⟩ = some (.int .u64 s3.v4) ∧ Kept w5 X)) 13 (by kernel_rfl) (HSS.out w5.drew ((Kept.refl w5).drew)) (fun hS0 => ?_)
  refine Late.take 0 (some 97) ?_ rfl rfl (by kernel_rfl) (by kernel_rfl) (by kernel_rfl) (by kernel_rfl) (fun _ _ _ h => h) (by kernel_rfl) (fun W hSW => ?_) hS0 ?_
  rotate_left
  · try dsimp only at hSW
    go_simp
    rfl
  simp only [Act.put, List.setIfInBounds_toArray, List.set_cons_zero, List.set_cons_succ]
  refine Late.take 1 (some 98) ?_ rfl rfl (by kernel_rfl) (by kernel_rfl) (by kernel_rfl) (by kernel_rfl) (fun _ _ _ h => h) (by kernel_rfl) (fun W hSW => ?_) hS0 ?_
  rotate_left
  · try dsimp only at hSW
    go_simp
    rfl
  simp only [Act.put, List.setIfInBounds_toArray, List.set_cons_zero, List.set_cons_succ]
  refine Late.take 2 (some 99) ?_ rfl rfl (by kernel_rfl) (by kernel_rfl) (by kernel_rfl) (by kernel_rfl) (fun _ _ _ h => h) (by kernel_rfl) (fun W hSW => ?_) hS0 ?_
  rotate_left
  · try dsimp only at hSW
    go_simp
    rfl
  simp only [Act.put, List.setIfInBounds_toArray, List.set_cons_zero, List.set_cons_succ]
  refine Late.take 3 (some 100) ?_ rfl rfl (by kernel_rfl) (by kernel_rfl) (by kernel_rfl) (by kernel_rfl) (fun _ _ _ h => h) (by kernel_rfl) (fun W hSW => ?_) hS0 ?_
  rotate_left
  · try dsimp only at hSW
    go_simp
    rfl
  simp only [Act.put, List.setIfInBounds_toArray, List.set_cons_zero, List.set_cons_succ]
  refine Late.take 4 (some 101) ?_ rfl rfl (by kernel_rfl) (by kernel_rfl) (by kernel_rfl) (by kernel_rfl) (fun _ _ _ h => h) (by kernel_rfl) (fun W hSW => ?_) hS0 ?_
  rotate_left
  · try dsimp only at hSW
    go_simp
    rfl
  simp only [Act.put, List.setIfInBounds_toArray, List.set_cons_zero, List.set_cons_succ]
  refine Late.take 5 (some 102) ?_ rfl rfl (by kernel_rfl) (by kernel_rfl) (by kernel_rfl) (by kernel_rfl) (fun _ _ _ h => h) (by kernel_rfl) (fun W hSW => ?_) hS0 ?_
  rotate_left
  · try dsimp only at hSW
    go_simp
    rfl
  simp only [Act.put, List.setIfInBounds_toArray, List.set_cons_zero, List.set_cons_succ]
  refine Late.take 6 (some 103) ?_ rfl rfl (by kernel_rfl) (by kernel_rfl) (by kernel_rfl) (by kernel_rfl) (fun _ _ _ h => h) (by kernel_rfl) (fun W hSW => ?_) hS0 ?_
  rotate_left
  · try dsimp only at hSW
    go_simp
    rfl
  simp only [Act.put, List.setIfInBounds_toArray, List.set_cons_zero, List.set_cons_succ]
  refine Late.take 7 (some 104) ?_ rfl rfl (by kernel_rfl) (by kernel_rfl) (by kernel_rfl) (by kernel_rfl) (fun _ _ _ h => h) (by kernel_rfl) (fun W hSW => ?_) hS0 ?_
  rotate_left
  · try dsimp only at hSW
    go_simp
    rfl
  simp only [Act.put, List.setIfInBounds_toArray, List.set_cons_zero, List.set_cons_succ]
  refine Late.take 8 (some 105) ?_ rfl rfl (by kernel_rfl) (by kernel_rfl) (by kernel_rfl) (by kernel_rfl) (fun _ _ _ h => h) (by kernel_rfl) (fun W hSW => ?_) hS0 ?_
  rotate_left
  · try dsimp only at hSW
    go_simp
    rfl
  simp only [Act.put, List.setIfInBounds_toArray, List.set_cons_zero, List.set_cons_succ]
  refine Late.ready (rs := [9]) (by kernel_rfl) (by simp) ?_
  refine LateAll.cons rfl (fun K hK => ?_) (LateAll.nil)
  go_simp
  refine (u64_at (HBB.out _ ((Kept.refl w5).drew)) 24 (by rw [HMM.out]; decide) _ (by decide) _ rfl).mono ?_
  rintro e wa ⟨rfl, hka⟩
  have kka : Kept w5 wa := ((Kept.refl w5).drew).trans hka
  refine hK.out _ _ (HSS.out wa kka) (fun hS1 => ?_)
  clear hK K
  try simp only [Act.put, List.setIfInBounds_toArray, List.set_cons_zero, List.set_cons_succ]
  refine Late.ready (rs := [10]) (by kernel_rfl) (by simp) ?_
  refine LateAll.cons rfl (fun K hK => ?_) (LateAll.nil)
  go_simp
  refine (round_calls _ _ _).mono ?_
  rintro e wb ⟨rfl, rfl⟩
  refine hK.out _ _ (HSS.out wb kka) (fun hS2 => ?_)
  clear hK K
  try simp only [Act.put, List.setIfInBounds_toArray, List.set_cons_zero, List.set_cons_succ]
  have ff := (HB3.out.kept kka).free 3
  refine Late.ready (rs := [11]) (by kernel_rfl) (by simp) ?_
  refine LateAll.cons rfl (fun K hK => ?_) (LateAll.nil)
  go_simp
  refine hK.out _ _ (HSS.out wb kka) (fun hS3 => ?_)
  clear hK K
  try simp only [Act.put, List.setIfInBounds_toArray, List.set_cons_zero, List.set_cons_succ]
  refine Late.take 12 (some 109) ?_ rfl rfl (by kernel_rfl) (by kernel_rfl) (by kernel_rfl) (by kernel_rfl) (fun _ _ _ h => h) (by kernel_rfl) (fun W hSW => ?_) hS3 ?_
  rotate_left
  · try dsimp only at hSW
    go_simp
    rfl
  simp only [Act.put, List.setIfInBounds_toArray, List.set_cons_zero, List.set_cons_succ]
  refine Late.ready (rs := [13]) (by kernel_rfl) (by simp) ?_
  refine LateAll.last rfl (fun K hK => ?_)
  go_simp
  refine hK.out _ _ ?_
  clear hK K
  refine Late.done (by kernel_rfl) ?_ _
  have hbj := (HB3.out.kept kka).set 3 (.int .u64 (rnd s3.v4 (le8at mm 24)))
  rw [enc_set4] at hbj
  have HT7 := Lib.hid (turn_set (HT6.out.kept kka) 3 (.int .u64 (rnd s3.v4 (le8at mm 24))))
  generalize wb.setCell ⟨d, 3, none⟩ (.int .u64 (rnd s3.v4 (le8at mm 24))) = w6 at *
  have hm4 : ({ s3 with v4 := rnd s3.v4 (le8at mm 24) } : St).mem = mm := hm3
  have hn04 : ({ s3 with v4 := rnd s3.v4 (le8at mm 24) } : St).n = s.n := hn03
  generalize hsj : ({ s3 with v4 := rnd s3.v4 (le8at mm 24) } : St) = s4 at *
  have HV4 := Lib.hid hsj
  have HB4 := Lib.hid hbj
  clear hsj hbj hka kka hS0 hS1 hS2 hS3 ff cc HSS HBB hsl
  have hm4' : s4.mem.length = 32 := by rw [hm4]; exact HMM.out
  have cn : w6.cell? ⟨d, 37, none⟩ = some (.int .i64 s.n) := by have := (HB4.out.cell 37).trans (enc_n hm4'); rw [hn04] at this; exact this
  have fn := HB4.out.free 37
  have hbe := HB4.out.set 37 (.int .i64 0)
  have e0 : (enc s4).set 37 (.int .i64 0) = enc { s4 with n := 0 } := enc_setn hm4' 0
  rw [e0] at hbe
  clear e0
  have HTE := Lib.hid (turn_set HT7.out 37 (.int .i64 0))
  have hmE : ({ s4 with n := 0 } : St).mem.length = 32 := hm4'
  have HF : Hid (fill { s with tot := IntKind.u64.wrap (s.tot + L) } l = { s4 with n := 0 }) := Lib.hid (by rw [← HV4.out, ← HV3.out, ← HV2.out, ← HV1.out, ← Hs0.out, ← Hmm.out]; rfl)
  generalize hsE : ({ s4 with n := 0 } : St) = sE at *
  clear hsE
  have HBE := Lib.hid hbe
  clear hbe
  have HRE := HRR.out
  rw [HF.out] at HRE
  have HRE2 := Lib.hid HRE
  clear HRE HF HV4 HV3 HV2 HV1 Hs0 Hmm HRR HB0 HB1 HB2 HB3 HB4 HT3 HT4 HT5 HT6 HT7
  obtain ⟨A1, hr1, hA1⟩ := slice_tail b o L cap (32 - s.n) (32 - (s.n : Int)) (by omega) (by omega) hcap1
  have hrl : (l.drop (32 - s.n)).length = L - (32 - s.n) := by rw [List.length_drop, HLL.out]
  have hBr : Bytes w b (o + (32 - s.n)) (l.drop (32 - s.n)) := HS.out.drop _
  have hcp : L - (32 - s.n) ≤ cap - (32 - s.n) := by omega
  generalize l.drop (32 - s.n) = r at *
  have hR0 : 32 - s.n < L ↔ 0 < L - (32 - s.n) := by omega
  rw [hR0] at hA1
  clear hR0
  have hcz : cap - (32 - s.n) ≤ maxLen := Nat.le_trans (Nat.sub_le _ _) hcm
  have hRl : L - (32 - s.n) ≤ 4294967296 := by omega
  generalize hRR : L - (32 - s.n) = R at *
  generalize hCC : cap - (32 - s.n) = C at *
  generalize o + (32 - s.n) = o2 at *
  clear hCC hRR
  have HBr := Lib.hid hBr
  have Hrl := Lib.hid hrl
  have HA1 := Lib.hid hA1
  clear hBr hrl hA1
  have hsl := slice_all d
  by_cases hRb : R < 32
  · have HR : Hid (sR = { sE with mem := splice sE.mem 0 r, n := R }) := Lib.hid (by rw [← HRE2.out]; unfold rest; rw [Hrl.out, Nat.div_eq_of_lt hRb, Nat.mod_eq_of_lt hRb]; rfl)
    have C1 : Hid ((r.map byte).length = Nat.min R 32) := Lib.hid (by rw [List.length_map, Hrl.out]; exact (Nat.min_eq_left (by omega)).symm)
    have C2 : Hid (0 < (r.map byte).length → (some ⟨d, 5, none⟩ : Option Addr) = some ⟨d, 5, none⟩ ∧ ∃ ad, some A1 = some ad ∧ ∀ j v, (r.map byte)[j]? = some v → (w6.setCell ⟨d, 37, none⟩ (.int .i64 0)).cell? (ad.add j) = some v) := Lib.hid (fun h => by
      rw [List.length_map, Hrl.out] at h
      exact ⟨rfl, _, congrArg some (HA1.out h), fun j v hj => (HBr.out.turn HTE.out hne).at_ hj⟩)
    have C3 : Hid (5 + (r.map byte).length ≤ (enc sE).length) := Lib.hid (by rw [enc_len hmE, List.length_map, Hrl.out]; omega)
    have C4 : Hid (∀ v ∈ r.map byte, v.oneCell' = true) := Lib.hid (fun v hv => by
      obtain ⟨x, _, rfl⟩ := List.mem_map.1 hv
      rfl)
    go_wp2_with (with_reducible refine wpList_copy_turn (o := ⟨some 134, _, _, _, _, _⟩) rfl (.tmp 132) (.tmp 133) 24 24 rfl 5 Tryz.underlying24 info5 (some ⟨d, 5, none⟩) (some A1) 32 32 R C rfl rfl d 5 (enc sE) 194 HBE.out (r.map byte) ?c1 ?c2 ?c3 ?c4 ?c5)
    case c1 => first | exact C1.out | simpa using C1.out
    case c2 => first | exact C2.out | simpa using C2.out
    case c3 => first | exact C3.out | simpa using C3.out
    case c4 => first | exact C4.out | simpa using C4.out
    intro wY HB3 HT3
    have HB4 := HB3.out
    rw [show (5 : Nat) = 5 + 0 from rfl, enc_copy hmE 0 r (by rw [Hrl.out]; omega)] at HB4
    have hm2 : (splice sE.mem 0 r).length = 32 := splice_len hmE _ _ (by rw [Hrl.out]; omega)
    have hb4 : Blk wY d 194 (enc { sE with mem := splice sE.mem 0 r }) := HB4
    clear HB3 HB4
    have f37 := hb4.free 37
    have hb5 := hb4.set 37 (.int .i64 (R : Int))
    rw [enc_setn (by exact hm2)] at hb5
    have HB5 := Lib.hid hb5
    have c5 : wY.cell? ⟨d, 37, none⟩ = some (.int .i64 sE.n) := (hb4.cell 37).trans (enc_n hm2)
    clear hb5 hb4
    have HT4 := Lib.hid (HTE.out.trans HT3.out)
    go_wp2
    go_ret2
    have hb6 := HB5.out
    rw [← HR.out] at hb6
    exact ⟨rfl, hb6, turn_set HT4.out _ _⟩
  · have hRb2 : 32 ≤ R := by omega
    obtain rfl := HA1.out (by omega)
    obtain ⟨A2, hr2, hA2⟩ := slice_tail b o2 R C (32 * (R / 32)) (32 * ((R : Int) / 32)) (by omega) (by omega) hcp
    have hbX := blocks_run d b o2 C r (by rw [Hrl.out]; exact hcp) hcz _ sE hmE HBE.out (HBr.out.turn HTE.out hne) hne (by rw [Hrl.out]; exact hRb2)
    rw [Hrl.out] at hbX
    have HbX := Lib.hid hbX
    clear hbX
    go_wp2_with (go_at_call 80; fail)
    refine HbX.out.mono ?_
    clear HbX
    rintro e wq ⟨rfl, hbq, htq⟩
    have HTQ := Lib.hid (HTE.out.trans htq)
    have HBQ := Lib.hid hbq
    clear hbq htq
    have hq : ((32 * (R / 32) : Nat) : Int) = 32 * ((R : Int) / 32) := by omega
    have hmq : (blks sE r (R / 32)).mem = sE.mem := (blks_mem _ _ _).1
    have HR : Hid (sR = { blks sE r (R / 32) with mem := splice (blks sE r (R / 32)).mem 0 (r.drop (32 * (R / 32))), n := R - 32 * (R / 32) }) := Lib.hid (by rw [← HRE2.out, hmq]; unfold rest; rw [Hrl.out, show R % 32 = R - 32 * (R / 32) by omega])
    have hmB : (blks sE r (R / 32)).mem.length = 32 := by rw [hmq]; exact hmE
    have hrq : (r.drop (32 * (R / 32))).length = R - 32 * (R / 32) := by rw [List.length_drop, Hrl.out]
    have hlt3 : R - 32 * (R / 32) < 32 := by omega
    have HBy := Lib.hid ((HBr.out.drop (32 * (R / 32))).turn HTQ.out hne)
    have hA2' : 0 < R - 32 * (R / 32) → some A2 = some ⟨b, o2 + 32 * (R / 32), none⟩ := fun h => by rw [hA2 (by omega)]
    clear hA2 hmq
    generalize blks sE r (R / 32) = sB at *
    generalize r.drop (32 * (R / 32)) = rr at *
    generalize R - 32 * (R / 32) = RR at *
    generalize C - 32 * (R / 32) = CC at *
    have HA := Lib.hid hA2'
    have HD := Lib.hid hrq
    clear hA2' hrq
    have C1 : Hid ((rr.map byte).length = Nat.min RR 32) := Lib.hid (by rw [List.length_map, HD.out]; exact (Nat.min_eq_left (by omega)).symm)
    have C2 : Hid (0 < (rr.map byte).length → (some ⟨d, 5, none⟩ : Option Addr) = some ⟨d, 5, none⟩ ∧ ∃ ad, some A2 = some ad ∧ ∀ j v, (rr.map byte)[j]? = some v → wq.cell? (ad.add j) = some v) := Lib.hid (fun h => by
      rw [List.length_map, HD.out] at h
      exact ⟨rfl, _, HA.out h, fun j v hj => HBy.out.at_ hj⟩)
    have C3 : Hid (5 + (rr.map byte).length ≤ (enc sB).length) := Lib.hid (by rw [enc_len hmB, List.length_map, HD.out]; omega)
    have C4 : Hid (∀ v ∈ rr.map byte, v.oneCell' = true) := Lib.hid (fun v hv => by
      obtain ⟨x, _, rfl⟩ := List.mem_map.1 hv
      rfl)
    go_wp2_with (with_reducible refine wpList_copy_turn (o := ⟨some 134, _, _, _, _, _⟩) rfl (.tmp 132) (.tmp 133) 24 24 rfl 5 Tryz.underlying24 info5 (some ⟨d, 5, none⟩) (some A2) 32 32 RR CC rfl rfl d 5 (enc sB) 194 HBQ.out (rr.map byte) ?e1 ?e2 ?e3 ?e4 ?e5)
    case e1 => first | exact C1.out | simpa using C1.out
    case e2 => first | exact C2.out | simpa using C2.out
    case e3 => first | exact C3.out | simpa using C3.out
    case e4 => first | exact C4.out | simpa using C4.out
    intro wY HB3 HT3
    have HB4 := HB3.out
    rw [show (5 : Nat) = 5 + 0 from rfl, enc_copy hmB 0 rr (by rw [HD.out]; omega)] at HB4
    have hm2 : (splice sB.mem 0 rr).length = 32 := splice_len hmB _ _ (by rw [HD.out]; omega)
    have hb4 : Blk wY d 194 (enc { sB with mem := splice sB.mem 0 rr }) := HB4
    clear HB3 HB4
    have f37 := hb4.free 37
    have hb5 := hb4.set 37 (.int .i64 (RR : Int))
    rw [enc_setn (by exact hm2)] at hb5
    have HB5 := Lib.hid hb5
    have c5 : wY.cell? ⟨d, 37, none⟩ = some (.int .i64 sB.n) := (hb4.cell 37).trans (enc_n hm2)
    clear hb5 hb4
    have HT4 := Lib.hid (HTQ.out.trans HT3.out)
    go_wp2
    go_ret2
    have hb6 := HB5.out
    rw [← HR.out] at hb6
    exact ⟨rfl, hb6, turn_set HT4.out _ _⟩
end Go.Proofs.YtgjhmbbbkkidlaaGreatDoor.hash

