/-
  MergeSymbols over this seat's program: both chains end in the new symbol's end, whose use count takes in the old end's.
  Conditions: the table's chains end; no symbol has flags; ast.InvalidRef holds its initial value.
-/
import Derived.Test.YticcbjgjjmmbcaaDoorMrgW
import Derived.Test.YticcbjgjjmmbcaaDoorTake
namespace Go.Proofs.YticcbjgjjmmbcaaDoor.arena
open Go.ChangeShapes Go.WideShapes Go.ChangeAt Go.RowKit
open kit chain

/-- what MergeSymbols leaves -/
def Merged (w : World) (g : Nat) (bk : Nat → Nat) (S : Nat) (σ : Tab) (d : Ref → Nat) (root : Ref → Ref) (ro rn o n : Ref) (e : Ending) (w' : World) : Prop :=
  ∃ τ r, e = .returned (refV r) ∧ Arena w' g bk S τ ∧ Turn w w' bk S ∧ Mg S σ d root ro rn τ ∧ Valid S σ r ∧ cls root ro rn r = rn ∧ rk d root ro rn r ≤ rk d root ro rn o ∧ rk d root ro rn r ≤ rk d root ro rn n

set_option maxHeartbeats 4000000 in
theorem mergeSame (w : World) (g : Nat) (bk : Nat → Nat) (S : Nat) (σ : Tab) (o : Ref) :
    Calls Tryd.prog 17 #[mapV g S, refV o, refV o] w fun e w' => e = .returned (refV o) ∧ Kept w w' := by
  have he : ∀ W : World, (binOp .eql 44 (.agg #[.int .u32 (o.1 : Int), .int .u32 (o.2 : Int)]) (.agg #[.int .u32 (o.1 : Int), .int .u32 (o.2 : Int)])).run Tryd.prog W = .ok (.bool true) W := fun W => by
    have := eqRef W o o
    simpa using this
  unfold mapV refV
  go_enter Tryd.func17, Tryd.ntmps17
  go_wp2
  exact bodyPost_ret (v := .agg #[.int .u32 (o.1 : Int), .int .u32 (o.2 : Int)]) (by simp [results, Tryd.results17, go_sem]) rfl ⟨rfl, (((Kept.refl _).alloc _).alloc _ |>.alloc _).alloc _⟩

set_option maxRecDepth 100000 in
set_option maxHeartbeats 8000000 in
theorem mergeOld (w : World) (g : Nat) (bk : Nat → Nat) (S : Nat) (σ : Tab) (d : Ref → Nat) (root : Ref → Ref) (ro rn o n : Ref) (h : Arena w g bk S σ) (hI : Inv w) (hz : ∀ s, s < S → bk s ≠ 0) (hv : Valid S σ o) (hne : o ≠ n) (hl : lnk σ o ≠ inv)
    (ih : ∀ W : World, Arena W g bk S σ → Inv W → Calls Tryd.prog 17 #[mapV g S, refV (lnk σ o), refV n] W (Merged W g bk S σ d root ro rn (lnk σ o) n)) :
    Calls Tryd.prog 17 #[mapV g S, refV o, refV n] w fun e w' => ∃ τ r, e = .returned (refV r) ∧ Arena w' g bk S (chain.put τ o r) ∧ Turn w w' bk S ∧ Mg S σ d root ro rn τ ∧ Valid S σ r ∧ cls root ro rn r = rn ∧ rk d root ro rn r ≤ rk d root ro rn (lnk σ o) ∧ rk d root ro rn r ≤ rk d root ro rn n := by
  have hsz := h.outer.lt
  have hb := h.lt hv.1
  have c2 : w.cell? ⟨bk o.1, o.2 * 10 + 2, none⟩ = some (.int .u32 ((lnk σ o).1 : Int)) := h.link2 hv
  have c3 : w.cell? ⟨bk o.1, o.2 * 10 + 3, none⟩ = some (.int .u32 ((lnk σ o).2 : Int)) := h.link3 hv
  obtain ⟨i0, i1⟩ := hI
  have HLT : Hid (∀ s, s < S → bk s < w.heap.size) := Lib.hid (fun s hs => h.lt hs)
  have he : ∀ W : World, (binOp .eql 44 (.agg #[.int .u32 (o.1 : Int), .int .u32 (o.2 : Int)]) (.agg #[.int .u32 (n.1 : Int), .int .u32 (n.2 : Int)])).run Tryd.prog W = .ok (.bool false) W := fun W => by
    have := eqRef W o n
    rw [decide_eq_false hne] at this
    exact this
  have hni : ∀ W : World, (binOp .neq 44 (.agg #[.int .u32 ((lnk σ o).1 : Int), .int .u32 ((lnk σ o).2 : Int)]) (.agg #[.int .u32 4294967295, .int .u32 4294967295])).run Tryd.prog W = .ok (.bool true) W := fun W => by
    have := neRef W (lnk σ o) inv
    rw [decide_eq_false hl] at this
    exact this
  have HA := Lib.hid h
  have HV := Lib.hid hv
  have HI := Lib.hid ih
  have HG := Lib.hid (fun W (k : Kept w W) => get W g bk S σ o (HA.out.kept k) HV.out)
  clear ih h hv hl hne
  have HZ := Lib.hid hz
  clear hz
  generalize lnk σ o = L at *
  unfold mapV refV at HI HG
  unfold mapV refV
  go_enter Tryd.func17, Tryd.ntmps17
  go_wp2_with fail
  refine (HG.out _ ((((Kept.refl _).alloc _).alloc _ |>.alloc _).alloc _)).mono ?_
  rintro e w1 ⟨rfl, hk⟩
  have K0 : Kept w w1 := ((((Kept.refl w).alloc _).alloc _).alloc _ |>.alloc _).trans hk
  have B0 : Blk w1 w.heap.size 39 [.slice (some ⟨g, 0, none⟩) S S] := ((((Blk.new w 39 [.slice (some ⟨g, 0, none⟩) S S]).alloc _).alloc _).alloc _).kept hk
  have B2 : Blk w1 (w.heap.size + 2) 44 [.int .u32 (n.1 : Int), .int .u32 (n.2 : Int)] := by
    have := ((Blk.new ((w.alloc (.cells #[.slice (some ⟨g, 0, none⟩) S S] 39)).alloc (.cells #[.int .u32 (o.1 : Int), .int .u32 (o.2 : Int)] 44)) 44 [.int .u32 (n.1 : Int), .int .u32 (n.2 : Int)]).alloc (.cells #[.int .u32 0, .int .u32 0] 44)).kept hk
    simpa using this
  have B3 : Blk w1 (w.heap.size + 3) 44 [.int .u32 0, .int .u32 0] := by
    have := (Blk.new (((w.alloc (.cells #[.slice (some ⟨g, 0, none⟩) S S] 39)).alloc (.cells #[.int .u32 (o.1 : Int), .int .u32 (o.2 : Int)] 44)).alloc (.cells #[.int .u32 (n.1 : Int), .int .u32 (n.2 : Int)] 44)) 44 [.int .u32 0, .int .u32 0]).kept hk
    simpa using this
  have e2 := K0.cell c2
  have e3 := K0.cell c3
  have j0 := K0.cell i0
  have j1 := K0.cell i1
  have k0 : w1.cell? ⟨w.heap.size, 0, none⟩ = some (.slice (some ⟨g, 0, none⟩) S S) := B0.cell 0
  have m0 : w1.cell? ⟨w.heap.size + 1 + 1, 0, none⟩ = some (.int .u32 (n.1 : Int)) := B2.cell 0
  have m1 : w1.cell? ⟨w.heap.size + 1 + 1, 1, none⟩ = some (.int .u32 (n.2 : Int)) := B2.cell 1
  have HI1 : Hid (Inv w1) := Lib.hid ⟨j0, j1⟩
  have HK := Lib.hid K0
  have HB3 := Lib.hid B3
  clear K0 B0 B2 B3 hk c2 c3 i0 i1 HG
  generalize hq : w.heap.size = q at *
  have HQ := Lib.hid hq
  clear hq
  go_wp2_with fail
  go_quiet (fail)
  go_wp2_with fail
  obtain ⟨w2, hw2⟩ : ∃ w2, w2 = w1.drewN nq := ⟨_, rfl⟩
  have HK2 : Hid (Kept w w2) := Lib.hid (by rw [hw2]; exact HK.out.drewN _)
  have HI2 : Hid (Inv w2) := Lib.hid (by rw [hw2]; exact HI1.out)
  have HB4 : Hid (Blk w2 (q + 3) 44 [.int .u32 0, .int .u32 0]) := Lib.hid (by rw [hw2]; exact HB3.out.drewN _)
  have s0 : w2.cell? ⟨q, 0, none⟩ = some (.slice (some ⟨g, 0, none⟩) S S) := by rw [hw2]; exact k0
  have s2 : w2.cell? ⟨bk o.1, o.2 * 10 + 2, none⟩ = some (.int .u32 (L.1 : Int)) := by rw [hw2]; exact e2
  have s3 : w2.cell? ⟨bk o.1, o.2 * 10 + 3, none⟩ = some (.int .u32 (L.2 : Int)) := by rw [hw2]; exact e3
  have n0 : w2.cell? ⟨q + 1 + 1, 0, none⟩ = some (.int .u32 (n.1 : Int)) := by rw [hw2]; exact m0
  have n1 : w2.cell? ⟨q + 1 + 1, 1, none⟩ = some (.int .u32 (n.2 : Int)) := by rw [hw2]; exact m1
  have HC := Lib.hid (fun (W : World) (hk : Kept w2 W) => (HI.out W ((HA.out.kept HK2.out).kept hk) (HI2.out.kept hk)).mono (fun e w' (f : Merged W g bk S σ d root ro rn L n e w') => (show ∃ τ r, e = .returned (.agg #[.int .u32 (r.1 : Int), .int .u32 (r.2 : Int)]) ∧ w'.cell? ⟨q, 0, none⟩ = some (.slice (some ⟨g, 0, none⟩) S S) ∧ w'.cell? ⟨q + 1 + 1, 0, none⟩ = some (.int .u32 (n.1 : Int)) ∧ w'.cell? ⟨q + 1 + 1, 1, none⟩ = some (.int .u32 (n.2 : Int)) ∧ (∃ v, w'.cell? ⟨bk o.1, o.2 * 10 + 2, none⟩ = some v) ∧ (∃ v, w'.cell? ⟨bk o.1, o.2 * 10 + 3, none⟩ = some v) ∧ w'.frozen? ⟨bk o.1, o.2 * 10 + 2, none⟩ = false ∧ w'.frozen? ⟨bk o.1, o.2 * 10 + 3, none⟩ = false ∧
      Hid (Arena w' g bk S τ ∧ Turn W w' bk S ∧ Mg S σ d root ro rn τ ∧ Valid S σ r ∧ cls root ro rn r = rn ∧ rk d root ro rn r ≤ rk d root ro rn L ∧ rk d root ro rn r ≤ rk d root ro rn n) from by
    obtain ⟨τ, r, f1, f2, f3, f4, f5⟩ := f
    have hlt : ∀ s, s < S → bk s < q := fun s hs => HLT.out s hs
    have hvt : Valid S τ o := f4.valid.2 HV.out
    exact ⟨τ, r, f1, f3.cell (hk.cell s0) (fun s hs => by have := hlt s hs; show bk s ≠ q; omega), f3.cell (hk.cell n0) (fun s hs => by have := hlt s hs; show bk s ≠ q + 1 + 1; omega), f3.cell (hk.cell n1) (fun s hs => by have := hlt s hs; show bk s ≠ q + 1 + 1; omega), ⟨_, f2.link2 hvt⟩, ⟨_, f2.link3 hvt⟩, f2.free hvt _, f2.free hvt _, Lib.hid ⟨f2, f3, f4, f5⟩⟩)))
  rw [← hw2]
  clear hw2 e2 e3 k0 m0 m1 j0 j1 he hni HK HB3 HI1 HI HI2
  refine wp_region_held_drew (S := fun W => W.cell? ⟨q, 0, none⟩ = some (.slice (some ⟨g, 0, none⟩) S S) ∧ W.cell? ⟨q + 1 + 1, 0, none⟩ = some (.int .u32 (n.1 : Int)) ∧ W.cell? ⟨q + 1 + 1, 1, none⟩ = some (.int .u32 (n.2 : Int))) (by kernel_rfl) ⟨s0, n0, n1⟩ (fun hH0 => ?_)
  refine takeY 0 (some 22) (.pointer (some ⟨bk o.1, o.2 * 10, none⟩)) rfl rfl (by kernel_rfl) (by kernel_rfl) (by kernel_rfl) (fun _ _ _ h => h) (by kernel_rfl) ?_ (by assumption) ?_
  · intro W hSW
    try dsimp only at hSW
    go_split_ands
    go_simp
  simp only [Act.put, List.setIfInBounds_toArray, List.set_cons_zero, List.set_cons_succ]
  refine takeY 1 (some 23) (.agg #[.slice (some ⟨g, 0, none⟩) S S]) rfl rfl (by kernel_rfl) (by kernel_rfl) (by kernel_rfl) (fun _ _ _ h => h) (by kernel_rfl) ?_ (by assumption) ?_
  · intro W hSW
    try dsimp only at hSW
    go_split_ands
    go_simp
  simp only [Act.put, List.setIfInBounds_toArray, List.set_cons_zero, List.set_cons_succ]
  refine takeY 2 (some 24) (.pointer (some ⟨bk o.1, o.2 * 10, none⟩)) rfl rfl (by kernel_rfl) (by kernel_rfl) (by kernel_rfl) (fun _ _ _ h => h) (by kernel_rfl) ?_ (by assumption) ?_
  · intro W hSW
    try dsimp only at hSW
    go_split_ands
    go_simp
  simp only [Act.put, List.setIfInBounds_toArray, List.set_cons_zero, List.set_cons_succ]
  refine takeY 3 (some 25) (.pointer (some ⟨bk o.1, o.2 * 10, none⟩)) rfl rfl (by kernel_rfl) (by kernel_rfl) (by kernel_rfl) (fun _ _ _ h => h) (by kernel_rfl) ?_ (by assumption) ?_
  · intro W hSW
    try dsimp only at hSW
    go_split_ands
    go_simp
  simp only [Act.put, List.setIfInBounds_toArray, List.set_cons_zero, List.set_cons_succ]
  refine takeY 4 (some 26) (.pointer (some ⟨bk o.1, o.2 * 10 + 2, none⟩)) rfl rfl (by kernel_rfl) (by kernel_rfl) (by kernel_rfl) (fun _ _ _ h => h) (by kernel_rfl) ?_ (by assumption) ?_
  · intro W hSW
    try dsimp only at hSW
    go_split_ands
    go_simp
  simp only [Act.put, List.setIfInBounds_toArray, List.set_cons_zero, List.set_cons_succ]
  refine takeY 6 (some 28) (.agg #[.int .u32 (n.1 : Int), .int .u32 (n.2 : Int)]) rfl rfl (by kernel_rfl) (by kernel_rfl) (by kernel_rfl) (fun _ _ _ h => h) (by kernel_rfl) ?_ (by assumption) ?_
  · intro W hSW
    try dsimp only at hSW
    go_split_ands
    go_simp
  simp only [Act.put, List.setIfInBounds_toArray, List.set_cons_zero, List.set_cons_succ]
  refine wpAnyH_ready (rs := [5]) (by kernel_rfl) (by simp) ?_
  refine AllReadyH.cons rfl (fun K hK => ?_) AllReadyH.nil
  go_simp
  refine hK.out _ _ ⟨s0, n0, n1⟩ (fun hH1 => ?_)
  clear hK K
  refine wpAnyH_ready (rs := [7]) (by kernel_rfl) (by simp) ?_
  refine AllReadyH.cons rfl (fun K hK => ?_) AllReadyH.nil
  go_simp
  go_wp2_with (go_at_call 17; refine (HC.out _ ?_).mono ?_; (repeat (first | exact Kept.refl _ | apply Kept.drew)); rintro e w' ⟨τ, r, rfl, t0, t1, t2, ⟨v2, t3⟩, ⟨v3, t4⟩, t5, t6, HM⟩)
  refine hK.out _ _ ⟨t0, t1, t2⟩ (fun hH2 => ?_)
  clear hK K
  refine takeY 8 (some 30) (.pointer (some ⟨bk o.1, o.2 * 10, none⟩)) rfl rfl (by kernel_rfl) (by kernel_rfl) (by kernel_rfl) (fun _ _ _ h => h) (by kernel_rfl) ?_ (by assumption) ?_
  · intro W hSW
    try dsimp only at hSW
    go_split_ands
    go_simp
  simp only [Act.put, List.setIfInBounds_toArray, List.set_cons_zero, List.set_cons_succ]
  refine takeY 9 (some 31) (.pointer (some ⟨bk o.1, o.2 * 10 + 2, none⟩)) rfl rfl (by kernel_rfl) (by kernel_rfl) (by kernel_rfl) (fun _ _ _ h => h) (by kernel_rfl) ?_ (by assumption) ?_
  · intro W hSW
    try dsimp only at hSW
    go_split_ands
    go_simp
  simp only [Act.put, List.setIfInBounds_toArray, List.set_cons_zero, List.set_cons_succ]
  refine wpAnyH_ready (rs := [10]) (by kernel_rfl) (by simp) ?_
  refine AllReadyH.cons rfl (fun K hK => ?_) AllReadyH.nil
  go_simp
  refine hK.out _ _ ⟨(by rw [World.cell?_setCell_far _ _ _ _ (by show bk o.1 ≠ q; omega), World.cell?_setCell_far _ _ _ _ (by show bk o.1 ≠ q; omega)]; assumption), (by rw [World.cell?_setCell_far _ _ _ _ (by show bk o.1 ≠ q + 1 + 1; omega), World.cell?_setCell_far _ _ _ _ (by show bk o.1 ≠ q + 1 + 1; omega)]; assumption), (by rw [World.cell?_setCell_far _ _ _ _ (by show bk o.1 ≠ q + 1 + 1; omega), World.cell?_setCell_far _ _ _ _ (by show bk o.1 ≠ q + 1 + 1; omega)]; assumption)⟩ (fun hH3 => ?_)
  clear hK K
  refine wpAnyH_done (by kernel_rfl) ?_ _
  clear hH0 hH1 hH2 hH3 t0 t1 t2 t3 t4 t5 t6 s0 s2 s3 n0 n1 HC
  obtain ⟨W3, hW3⟩ : ∃ W3, W3 = (w'.setCell ⟨bk o.1, o.2 * 10 + 2, none⟩ (.int .u32 (r.1 : Int))).setCell ⟨bk o.1, o.2 * 10 + 2 + 1, none⟩ (.int .u32 (r.2 : Int)) := ⟨_, rfl⟩
  have hlt : ∀ s, s < S → bk s < q := fun s hs => HLT.out s hs
  have hvt : Valid S τ o := HM.out.2.2.1.valid.2 HV.out
  have HA3 : Hid (Arena W3 g bk S (chain.put τ o r)) := Lib.hid (by rw [hW3]; exact HM.out.1.put hvt r)
  have HT3 : Hid (Turn w W3 bk S) := Lib.hid (by rw [hW3]; exact ((((Turn.of_kept HK2.out.drew bk S).trans HM.out.2.1).setSym hvt.1 _ _).setSym hvt.1 _ _))
  have b3 : Blk w' (q + 3) 44 [.int .u32 0, .int .u32 0] := HM.out.2.1.blk HB4.out.drew (fun s hs => by have := hlt s hs; omega)
  have HR3 : Hid (Blk W3 (q + 3) 44 [.int .u32 0, .int .u32 0]) := Lib.hid (by
    rw [hW3]
    exact (b3.far (by show q + 3 ≠ bk o.1; omega) _).far (by show q + 3 ≠ bk o.1; omega) _)
  have hvp : Valid S (chain.put τ o r) o := put_valid.2 hvt
  have v2 := HA3.out.link2 hvp
  have v3 := HA3.out.link3 hvp
  rw [put_lnk r o hvt, if_pos rfl] at v2 v3
  have l0 : W3.cell? ⟨q + 1 + 1 + 1, 0, none⟩ = some (.int .u32 0) := HR3.out.cell 0
  have l1 : W3.cell? ⟨q + 1 + 1 + 1, 1, none⟩ = some (.int .u32 0) := HR3.out.cell 1
  have f0 : W3.frozen? ⟨q + 1 + 1 + 1, 0, none⟩ = false := HR3.out.free 0
  have f1 : W3.frozen? ⟨q + 1 + 1 + 1, 1, none⟩ = false := HR3.out.free 1
  have HLT2 := Lib.hid hlt
  rw [← hW3]
  clear hW3 b3 hvt hvp hlt
  go_wp2_with fail
  refine bodyPost_ret (v := .agg #[.int .u32 (r.1 : Int), .int .u32 (r.2 : Int)]) (by simp [results, Tryd.results17, go_sem, l0, l1]) rfl ?_
  refine ⟨τ, r, rfl, ?_, ?_, HM.out.2.2⟩
  · refine (HA3.out.far ?_ ?_ _).far ?_ ?_ _
    · show g ≠ q + 1 + 1 + 1; omega
    · intro s hs; have := HLT2.out s hs; show bk s ≠ q + 1 + 1 + 1; omega
    · show g ≠ q + 1 + 1 + 1; omega
    · intro s hs; have := HLT2.out s hs; show bk s ≠ q + 1 + 1 + 1; omega
  · refine (HT3.out.setNew ?_ _).setNew ?_ _
    · show w.heap.size ≤ q + 1 + 1 + 1; have := HQ.out; omega
    · show w.heap.size ≤ q + 1 + 1 + 1; have := HQ.out; omega

set_option maxRecDepth 100000 in
set_option maxHeartbeats 8000000 in
theorem mergeNew (w : World) (g : Nat) (bk : Nat → Nat) (S : Nat) (σ : Tab) (d : Ref → Nat) (root : Ref → Ref) (ro rn o n : Ref) (h : Arena w g bk S σ) (hI : Inv w) (hz : ∀ s, s < S → bk s ≠ 0) (hv : Valid S σ o) (hvn : Valid S σ n) (hne : o ≠ n) (hl : lnk σ o = inv) (hln : lnk σ n ≠ inv)
    (ih : ∀ W : World, Arena W g bk S σ → Inv W → Calls Tryd.prog 17 #[mapV g S, refV o, refV (lnk σ n)] W (Merged W g bk S σ d root ro rn o (lnk σ n))) :
    Calls Tryd.prog 17 #[mapV g S, refV o, refV n] w fun e w' => ∃ τ r, e = .returned (refV r) ∧ Arena w' g bk S (chain.put τ n r) ∧ Turn w w' bk S ∧ Mg S σ d root ro rn τ ∧ Valid S σ r ∧ cls root ro rn r = rn ∧ rk d root ro rn r ≤ rk d root ro rn o ∧ rk d root ro rn r ≤ rk d root ro rn (lnk σ n) := by
  have hsz := h.outer.lt
  have hb := h.lt hvn.1
  have c2 : w.cell? ⟨bk o.1, o.2 * 10 + 2, none⟩ = some (.int .u32 4294967295) := by
    have := h.link2 hv
    rw [hl] at this
    exact this
  have c3 : w.cell? ⟨bk o.1, o.2 * 10 + 3, none⟩ = some (.int .u32 4294967295) := by
    have := h.link3 hv
    rw [hl] at this
    exact this
  have hj := hI
  obtain ⟨i0, i1⟩ := hI
  have HLT : Hid (∀ s, s < S → bk s < w.heap.size) := Lib.hid (fun s hs => h.lt hs)
  have he : ∀ W : World, (binOp .eql 44 (.agg #[.int .u32 (o.1 : Int), .int .u32 (o.2 : Int)]) (.agg #[.int .u32 (n.1 : Int), .int .u32 (n.2 : Int)])).run Tryd.prog W = .ok (.bool false) W := fun W => by
    have := eqRef W o n
    rw [decide_eq_false hne] at this
    exact this
  have hni : ∀ W : World, (binOp .neq 44 (.agg #[.int .u32 4294967295, .int .u32 4294967295]) (.agg #[.int .u32 4294967295, .int .u32 4294967295])).run Tryd.prog W = .ok (.bool false) W := fun W => by
    have := neRef W inv inv
    simpa [inv] using this
  have hni2 : ∀ W : World, (binOp .neq 44 (.agg #[.int .u32 ((lnk σ n).1 : Int), .int .u32 ((lnk σ n).2 : Int)]) (.agg #[.int .u32 4294967295, .int .u32 4294967295])).run Tryd.prog W = .ok (.bool true) W := fun W => by
    have := neRef W (lnk σ n) inv
    rw [decide_eq_false hln] at this
    exact this
  have d2 := Lib.hid (h.link2 hvn)
  have d3 := Lib.hid (h.link3 hvn)
  have HA := Lib.hid h
  have HV := Lib.hid hv
  have HVN := Lib.hid hvn
  have HG := Lib.hid (fun W (k : Kept w W) => get W g bk S σ o (HA.out.kept k) HV.out)
  have HG2 := Lib.hid (fun W (k : Kept w W) => get W g bk S σ n (HA.out.kept k) HVN.out)
  have HI := Lib.hid ih
  have HJ := Lib.hid hj
  clear ih h hv hvn hl hln hne hj
  have HZ := Lib.hid hz
  clear hz
  generalize lnk σ n = L at *
  unfold mapV refV at HI
  unfold mapV refV at HG HG2
  unfold mapV refV
  go_enter Tryd.func17, Tryd.ntmps17
  go_wp2_with fail
  refine (HG.out _ ((((Kept.refl _).alloc _).alloc _ |>.alloc _).alloc _)).mono ?_
  rintro e w1 ⟨rfl, hk⟩
  have K0 : Kept w w1 := ((((Kept.refl w).alloc _).alloc _).alloc _ |>.alloc _).trans hk
  have B0 : Blk w1 w.heap.size 39 [.slice (some ⟨g, 0, none⟩) S S] := ((((Blk.new w 39 [.slice (some ⟨g, 0, none⟩) S S]).alloc _).alloc _).alloc _).kept hk
  have B1 : Blk w1 (w.heap.size + 1) 44 [.int .u32 (o.1 : Int), .int .u32 (o.2 : Int)] := by
    have := (((Blk.new (w.alloc (.cells #[.slice (some ⟨g, 0, none⟩) S S] 39)) 44 [.int .u32 (o.1 : Int), .int .u32 (o.2 : Int)]).alloc (.cells #[.int .u32 (n.1 : Int), .int .u32 (n.2 : Int)] 44)).alloc (.cells #[.int .u32 0, .int .u32 0] 44)).kept hk
    simpa using this
  have B2 : Blk w1 (w.heap.size + 2) 44 [.int .u32 (n.1 : Int), .int .u32 (n.2 : Int)] := by
    have := ((Blk.new ((w.alloc (.cells #[.slice (some ⟨g, 0, none⟩) S S] 39)).alloc (.cells #[.int .u32 (o.1 : Int), .int .u32 (o.2 : Int)] 44)) 44 [.int .u32 (n.1 : Int), .int .u32 (n.2 : Int)]).alloc (.cells #[.int .u32 0, .int .u32 0] 44)).kept hk
    simpa using this
  have B3 : Blk w1 (w.heap.size + 3) 44 [.int .u32 0, .int .u32 0] := by
    have := (Blk.new (((w.alloc (.cells #[.slice (some ⟨g, 0, none⟩) S S] 39)).alloc (.cells #[.int .u32 (o.1 : Int), .int .u32 (o.2 : Int)] 44)).alloc (.cells #[.int .u32 (n.1 : Int), .int .u32 (n.2 : Int)] 44)) 44 [.int .u32 0, .int .u32 0]).kept hk
    simpa using this
  have e2 := K0.cell c2
  have e3 := K0.cell c3
  have j0 := K0.cell i0
  have j1 := K0.cell i1
  have k0 : w1.cell? ⟨w.heap.size, 0, none⟩ = some (.slice (some ⟨g, 0, none⟩) S S) := B0.cell 0
  have m0 : w1.cell? ⟨w.heap.size + 1 + 1, 0, none⟩ = some (.int .u32 (n.1 : Int)) := B2.cell 0
  have m1 : w1.cell? ⟨w.heap.size + 1 + 1, 1, none⟩ = some (.int .u32 (n.2 : Int)) := B2.cell 1
  have HK := Lib.hid K0
  have HB0 := Lib.hid B0
  have HB1 := Lib.hid B1
  have HB2 := Lib.hid B2
  have HB3 := Lib.hid B3
  clear K0 B0 B1 B2 B3 hk c2 c3 i0 i1 HG
  generalize hq : w.heap.size = q at *
  have HQ := Lib.hid hq
  clear hq
  go_wp2_with fail
  go_quiet (fail)
  go_wp2_with fail
  refine (HG2.out _ (HK.out.drewN _)).mono ?_
  rintro e w2 ⟨rfl, hk2⟩
  have KK : Hid (Kept w1 w2) := Lib.hid (Kept.trans ((Kept.refl w1).drewN _) hk2)
  have HK2 : Hid (Kept w w2) := Lib.hid (HK.out.trans KK.out)
  have HB4 : Hid (Blk w2 (q + 3) 44 [.int .u32 0, .int .u32 0]) := Lib.hid (HB3.out.kept KK.out)
  have s0 : w2.cell? ⟨q, 0, none⟩ = some (.slice (some ⟨g, 0, none⟩) S S) := KK.out.cell (HB0.out.cell 0)
  have p0 : w2.cell? ⟨q + 1, 0, none⟩ = some (.int .u32 (o.1 : Int)) := KK.out.cell (HB1.out.cell 0)
  have p1 : w2.cell? ⟨q + 1, 1, none⟩ = some (.int .u32 (o.2 : Int)) := KK.out.cell (HB1.out.cell 1)
  have n0 : w2.cell? ⟨q + 1 + 1, 0, none⟩ = some (.int .u32 (n.1 : Int)) := KK.out.cell (HB2.out.cell 0)
  have n1 : w2.cell? ⟨q + 1 + 1, 1, none⟩ = some (.int .u32 (n.2 : Int)) := KK.out.cell (HB2.out.cell 1)
  have i0 := KK.out.cell j0
  have i1 := KK.out.cell j1
  clear hk2 e2 e3 k0 m0 m1 j0 j1 he HB3 HB0 HB1 HB2 HG2 HK KK
  have s2 : w2.cell? ⟨bk n.1, n.2 * 10 + 2, none⟩ = some (.int .u32 (L.1 : Int)) := HK2.out.cell d2.out
  have s3 : w2.cell? ⟨bk n.1, n.2 * 10 + 3, none⟩ = some (.int .u32 (L.2 : Int)) := HK2.out.cell d3.out
  clear d2 d3 hni
  go_wp2_with fail
  go_quiet (fail)
  go_wp2_with fail
  obtain ⟨w4, hw4⟩ : ∃ w4, w4 = w2.drewN nq := ⟨_, rfl⟩
  have HK4 : Hid (Kept w w4) := Lib.hid (by rw [hw4]; exact HK2.out.drewN _)
  have HI4 : Hid (Inv w4) := Lib.hid (HJ.out.kept HK4.out)
  have HB5 : Hid (Blk w4 (q + 3) 44 [.int .u32 0, .int .u32 0]) := Lib.hid (by rw [hw4]; exact HB4.out.drewN _)
  have r0 : w4.cell? ⟨q, 0, none⟩ = some (.slice (some ⟨g, 0, none⟩) S S) := by rw [hw4]; exact s0
  have r2 : w4.cell? ⟨bk n.1, n.2 * 10 + 2, none⟩ = some (.int .u32 (L.1 : Int)) := by rw [hw4]; exact s2
  have r3 : w4.cell? ⟨bk n.1, n.2 * 10 + 3, none⟩ = some (.int .u32 (L.2 : Int)) := by rw [hw4]; exact s3
  have q0 : w4.cell? ⟨q + 1, 0, none⟩ = some (.int .u32 (o.1 : Int)) := by rw [hw4]; exact p0
  have q1 : w4.cell? ⟨q + 1, 1, none⟩ = some (.int .u32 (o.2 : Int)) := by rw [hw4]; exact p1
  have HC := Lib.hid (fun (W : World) (hk : Kept w4 W) => (HI.out W ((HA.out.kept HK4.out).kept hk) (HI4.out.kept hk)).mono (fun e w' (f : Merged W g bk S σ d root ro rn o L e w') => (show ∃ τ r, e = .returned (.agg #[.int .u32 (r.1 : Int), .int .u32 (r.2 : Int)]) ∧ w'.cell? ⟨q, 0, none⟩ = some (.slice (some ⟨g, 0, none⟩) S S) ∧ w'.cell? ⟨q + 1, 0, none⟩ = some (.int .u32 (o.1 : Int)) ∧ w'.cell? ⟨q + 1, 1, none⟩ = some (.int .u32 (o.2 : Int)) ∧ (∃ v, w'.cell? ⟨bk n.1, n.2 * 10 + 2, none⟩ = some v) ∧ (∃ v, w'.cell? ⟨bk n.1, n.2 * 10 + 3, none⟩ = some v) ∧ w'.frozen? ⟨bk n.1, n.2 * 10 + 2, none⟩ = false ∧ w'.frozen? ⟨bk n.1, n.2 * 10 + 3, none⟩ = false ∧
      Hid (Arena w' g bk S τ ∧ Turn W w' bk S ∧ Mg S σ d root ro rn τ ∧ Valid S σ r ∧ cls root ro rn r = rn ∧ rk d root ro rn r ≤ rk d root ro rn o ∧ rk d root ro rn r ≤ rk d root ro rn L) from by
    obtain ⟨τ, r, f1, f2, f3, f4, f5⟩ := f
    have hlt : ∀ s, s < S → bk s < q := fun s hs => HLT.out s hs
    have hvt : Valid S τ n := f4.valid.2 HVN.out
    exact ⟨τ, r, f1, f3.cell (hk.cell r0) (fun s hs => by have := hlt s hs; show bk s ≠ q; omega), f3.cell (hk.cell q0) (fun s hs => by have := hlt s hs; show bk s ≠ q + 1; omega), f3.cell (hk.cell q1) (fun s hs => by have := hlt s hs; show bk s ≠ q + 1; omega), ⟨_, f2.link2 hvt⟩, ⟨_, f2.link3 hvt⟩, f2.free hvt _, f2.free hvt _, Lib.hid ⟨f2, f3, f4, f5⟩⟩)))
  rw [← hw4]
  clear hw4 s0 s2 s3 p0 p1 n0 n1 i0 i1 hni2 HI HI4 HB4 HJ
  refine wp_region_held_drew (S := fun W => W.cell? ⟨q, 0, none⟩ = some (.slice (some ⟨g, 0, none⟩) S S) ∧ W.cell? ⟨q + 1, 0, none⟩ = some (.int .u32 (o.1 : Int)) ∧ W.cell? ⟨q + 1, 1, none⟩ = some (.int .u32 (o.2 : Int))) (by kernel_rfl) ⟨r0, q0, q1⟩ (fun hH0 => ?_)
  refine takeY 0 (some 45) (.pointer (some ⟨bk n.1, n.2 * 10, none⟩)) rfl rfl (by kernel_rfl) (by kernel_rfl) (by kernel_rfl) (fun _ _ _ h => h) (by kernel_rfl) ?_ (by assumption) ?_
  · intro W hSW
    try dsimp only at hSW
    go_split_ands
    go_simp
  simp only [Act.put, List.setIfInBounds_toArray, List.set_cons_zero, List.set_cons_succ]
  refine takeY 1 (some 46) (.agg #[.slice (some ⟨g, 0, none⟩) S S]) rfl rfl (by kernel_rfl) (by kernel_rfl) (by kernel_rfl) (fun _ _ _ h => h) (by kernel_rfl) ?_ (by assumption) ?_
  · intro W hSW
    try dsimp only at hSW
    go_split_ands
    go_simp
  simp only [Act.put, List.setIfInBounds_toArray, List.set_cons_zero, List.set_cons_succ]
  refine takeY 2 (some 47) (.agg #[.int .u32 (o.1 : Int), .int .u32 (o.2 : Int)]) rfl rfl (by kernel_rfl) (by kernel_rfl) (by kernel_rfl) (fun _ _ _ h => h) (by kernel_rfl) ?_ (by assumption) ?_
  · intro W hSW
    try dsimp only at hSW
    go_split_ands
    go_simp
  simp only [Act.put, List.setIfInBounds_toArray, List.set_cons_zero, List.set_cons_succ]
  refine takeY 3 (some 48) (.pointer (some ⟨bk n.1, n.2 * 10, none⟩)) rfl rfl (by kernel_rfl) (by kernel_rfl) (by kernel_rfl) (fun _ _ _ h => h) (by kernel_rfl) ?_ (by assumption) ?_
  · intro W hSW
    try dsimp only at hSW
    go_split_ands
    go_simp
  simp only [Act.put, List.setIfInBounds_toArray, List.set_cons_zero, List.set_cons_succ]
  refine takeY 4 (some 49) (.pointer (some ⟨bk n.1, n.2 * 10, none⟩)) rfl rfl (by kernel_rfl) (by kernel_rfl) (by kernel_rfl) (fun _ _ _ h => h) (by kernel_rfl) ?_ (by assumption) ?_
  · intro W hSW
    try dsimp only at hSW
    go_split_ands
    go_simp
  simp only [Act.put, List.setIfInBounds_toArray, List.set_cons_zero, List.set_cons_succ]
  refine takeY 5 (some 50) (.pointer (some ⟨bk n.1, n.2 * 10 + 2, none⟩)) rfl rfl (by kernel_rfl) (by kernel_rfl) (by kernel_rfl) (fun _ _ _ h => h) (by kernel_rfl) ?_ (by assumption) ?_
  · intro W hSW
    try dsimp only at hSW
    go_split_ands
    go_simp
  simp only [Act.put, List.setIfInBounds_toArray, List.set_cons_zero, List.set_cons_succ]
  refine wpAnyH_ready (rs := [6]) (by kernel_rfl) (by simp) ?_
  refine AllReadyH.cons rfl (fun K hK => ?_) AllReadyH.nil
  go_simp
  refine hK.out _ _ ⟨r0, q0, q1⟩ (fun hH1 => ?_)
  clear hK K
  refine wpAnyH_ready (rs := [7]) (by kernel_rfl) (by simp) ?_
  refine AllReadyH.cons rfl (fun K hK => ?_) AllReadyH.nil
  go_simp
  go_wp2_with (go_at_call 17; refine (HC.out _ ?_).mono ?_; (repeat (first | exact Kept.refl _ | apply Kept.drew)); rintro e w' ⟨τ, r, rfl, t0, t1, t2, ⟨v2, t3⟩, ⟨v3, t4⟩, t5, t6, HM⟩)
  refine hK.out _ _ ⟨t0, t1, t2⟩ (fun hH2 => ?_)
  clear hK K
  refine takeY 8 (some 53) (.pointer (some ⟨bk n.1, n.2 * 10, none⟩)) rfl rfl (by kernel_rfl) (by kernel_rfl) (by kernel_rfl) (fun _ _ _ h => h) (by kernel_rfl) ?_ (by assumption) ?_
  · intro W hSW
    try dsimp only at hSW
    go_split_ands
    go_simp
  simp only [Act.put, List.setIfInBounds_toArray, List.set_cons_zero, List.set_cons_succ]
  refine takeY 9 (some 54) (.pointer (some ⟨bk n.1, n.2 * 10 + 2, none⟩)) rfl rfl (by kernel_rfl) (by kernel_rfl) (by kernel_rfl) (fun _ _ _ h => h) (by kernel_rfl) ?_ (by assumption) ?_
  · intro W hSW
    try dsimp only at hSW
    go_split_ands
    go_simp
  simp only [Act.put, List.setIfInBounds_toArray, List.set_cons_zero, List.set_cons_succ]
  refine wpAnyH_ready (rs := [10]) (by kernel_rfl) (by simp) ?_
  refine AllReadyH.cons rfl (fun K hK => ?_) AllReadyH.nil
  go_simp
  refine hK.out _ _ ⟨(by rw [World.cell?_setCell_far _ _ _ _ (by show bk n.1 ≠ q; omega), World.cell?_setCell_far _ _ _ _ (by show bk n.1 ≠ q; omega)]; assumption), (by rw [World.cell?_setCell_far _ _ _ _ (by show bk n.1 ≠ q + 1; omega), World.cell?_setCell_far _ _ _ _ (by show bk n.1 ≠ q + 1; omega)]; assumption), (by rw [World.cell?_setCell_far _ _ _ _ (by show bk n.1 ≠ q + 1; omega), World.cell?_setCell_far _ _ _ _ (by show bk n.1 ≠ q + 1; omega)]; assumption)⟩ (fun hH3 => ?_)
  clear hK K
  refine wpAnyH_done (by kernel_rfl) ?_ _
  clear hH0 hH1 hH2 hH3 t0 t1 t2 t3 t4 t5 t6 r0 r2 r3 q0 q1 HC
  obtain ⟨W3, hW3⟩ : ∃ W3, W3 = (w'.setCell ⟨bk n.1, n.2 * 10 + 2, none⟩ (.int .u32 (r.1 : Int))).setCell ⟨bk n.1, n.2 * 10 + 2 + 1, none⟩ (.int .u32 (r.2 : Int)) := ⟨_, rfl⟩
  have hlt : ∀ s, s < S → bk s < q := fun s hs => HLT.out s hs
  have hvt : Valid S τ n := HM.out.2.2.1.valid.2 HVN.out
  have HA3 : Hid (Arena W3 g bk S (chain.put τ n r)) := Lib.hid (by rw [hW3]; exact HM.out.1.put hvt r)
  have HT3 : Hid (Turn w W3 bk S) := Lib.hid (by rw [hW3]; exact ((((Turn.of_kept HK4.out.drew bk S).trans HM.out.2.1).setSym hvt.1 _ _).setSym hvt.1 _ _))
  have b3 : Blk w' (q + 3) 44 [.int .u32 0, .int .u32 0] := HM.out.2.1.blk HB5.out.drew (fun s hs => by have := hlt s hs; omega)
  have HR3 : Hid (Blk W3 (q + 3) 44 [.int .u32 0, .int .u32 0]) := Lib.hid (by
    rw [hW3]
    exact (b3.far (by show q + 3 ≠ bk n.1; omega) _).far (by show q + 3 ≠ bk n.1; omega) _)
  have hvp : Valid S (chain.put τ n r) n := put_valid.2 hvt
  have v2 := HA3.out.link2 hvp
  have v3 := HA3.out.link3 hvp
  rw [put_lnk r n hvt, if_pos rfl] at v2 v3
  have l0 : W3.cell? ⟨q + 1 + 1 + 1, 0, none⟩ = some (.int .u32 0) := HR3.out.cell 0
  have l1 : W3.cell? ⟨q + 1 + 1 + 1, 1, none⟩ = some (.int .u32 0) := HR3.out.cell 1
  have f0 : W3.frozen? ⟨q + 1 + 1 + 1, 0, none⟩ = false := HR3.out.free 0
  have f1 : W3.frozen? ⟨q + 1 + 1 + 1, 1, none⟩ = false := HR3.out.free 1
  have HLT2 := Lib.hid hlt
  rw [← hW3]
  clear hW3 b3 hvt hvp hlt
  go_wp2_with fail
  refine bodyPost_ret (v := .agg #[.int .u32 (r.1 : Int), .int .u32 (r.2 : Int)]) (by simp [results, Tryd.results17, go_sem, l0, l1]) rfl ?_
  refine ⟨τ, r, rfl, ?_, ?_, HM.out.2.2⟩
  · refine (HA3.out.far ?_ ?_ _).far ?_ ?_ _
    · show g ≠ q + 1 + 1 + 1; omega
    · intro s hs; have := HLT2.out s hs; show bk s ≠ q + 1 + 1 + 1; omega
    · show g ≠ q + 1 + 1 + 1; omega
    · intro s hs; have := HLT2.out s hs; show bk s ≠ q + 1 + 1 + 1; omega
  · refine (HT3.out.setNew ?_ _).setNew ?_ _
    · show w.heap.size ≤ q + 1 + 1 + 1; have := HQ.out; omega
    · show w.heap.size ≤ q + 1 + 1 + 1; have := HQ.out; omega

set_option maxRecDepth 100000 in
set_option maxHeartbeats 8000000 in
theorem mergeRoots (w : World) (g : Nat) (bk : Nat → Nat) (S : Nat) (σ : Tab) (o n : Ref) (h : Arena w g bk S σ) (hI : Inv w) (hz : ∀ s, s < S → bk s ≠ 0) (hv : Valid S σ o) (hvn : Valid S σ n) (hne : o ≠ n) (hl : lnk σ o = inv) (hln : lnk σ n = inv)
    (fo : (symAt σ o).flags = 0) (fn : (symAt σ n).flags = 0) :
    Calls Tryd.prog 17 #[mapV g S, refV o, refV n] w fun e w' => e = .returned (refV n) ∧ Arena w' g bk S (putU (chain.put σ o n) n (((symAt σ n).use + (symAt σ o).use) % 4294967296)) ∧ Turn w w' bk S := by
  have hsz := h.outer.lt
  have hb := h.lt hvn.1
  have hbo := h.lt hv.1
  have c2 : w.cell? ⟨bk o.1, o.2 * 10 + 2, none⟩ = some (.int .u32 4294967295) := by
    have := h.link2 hv
    rw [hl] at this
    exact this
  have c3 : w.cell? ⟨bk o.1, o.2 * 10 + 3, none⟩ = some (.int .u32 4294967295) := by
    have := h.link3 hv
    rw [hl] at this
    exact this
  have hj := hI
  obtain ⟨i0, i1⟩ := hI
  have HLT : Hid (∀ s, s < S → bk s < w.heap.size) := Lib.hid (fun s hs => h.lt hs)
  have he : ∀ W : World, (binOp .eql 44 (.agg #[.int .u32 (o.1 : Int), .int .u32 (o.2 : Int)]) (.agg #[.int .u32 (n.1 : Int), .int .u32 (n.2 : Int)])).run Tryd.prog W = .ok (.bool false) W := fun W => by
    have := eqRef W o n
    rw [decide_eq_false hne] at this
    exact this
  have hni : ∀ W : World, (binOp .neq 44 (.agg #[.int .u32 4294967295, .int .u32 4294967295]) (.agg #[.int .u32 4294967295, .int .u32 4294967295])).run Tryd.prog W = .ok (.bool false) W := fun W => by
    have := neRef W inv inv
    simpa [inv] using this
  have d2 := h.link2 hvn
  have d3 := h.link3 hvn
  rw [hln] at d2 d3
  have D2 := Lib.hid d2
  have D3 := Lib.hid d3
  have HA := Lib.hid h
  have HV := Lib.hid hv
  have HVN := Lib.hid hvn
  have HG := Lib.hid (fun W (k : Kept w W) => get W g bk S σ o (HA.out.kept k) HV.out)
  have HG2 := Lib.hid (fun W (k : Kept w W) => get W g bk S σ n (HA.out.kept k) HVN.out)
  have HJ := Lib.hid hj
  have HNE := Lib.hid hne
  have FO := Lib.hid fo
  have FN := Lib.hid fn
  clear h hv hvn hl hln hne hj d2 d3 fo fn
  have HZ := Lib.hid hz
  clear hz
  unfold mapV refV at HG HG2
  unfold mapV refV
  go_enter Tryd.func17, Tryd.ntmps17
  go_wp2_with fail
  refine (HG.out _ ((((Kept.refl _).alloc _).alloc _ |>.alloc _).alloc _)).mono ?_
  rintro e w1 ⟨rfl, hk⟩
  have K0 : Kept w w1 := ((((Kept.refl w).alloc _).alloc _).alloc _ |>.alloc _).trans hk
  have B0 : Blk w1 w.heap.size 39 [.slice (some ⟨g, 0, none⟩) S S] := ((((Blk.new w 39 [.slice (some ⟨g, 0, none⟩) S S]).alloc _).alloc _).alloc _).kept hk
  have B1 : Blk w1 (w.heap.size + 1) 44 [.int .u32 (o.1 : Int), .int .u32 (o.2 : Int)] := by
    have := (((Blk.new (w.alloc (.cells #[.slice (some ⟨g, 0, none⟩) S S] 39)) 44 [.int .u32 (o.1 : Int), .int .u32 (o.2 : Int)]).alloc (.cells #[.int .u32 (n.1 : Int), .int .u32 (n.2 : Int)] 44)).alloc (.cells #[.int .u32 0, .int .u32 0] 44)).kept hk
    simpa using this
  have B2 : Blk w1 (w.heap.size + 2) 44 [.int .u32 (n.1 : Int), .int .u32 (n.2 : Int)] := by
    have := ((Blk.new ((w.alloc (.cells #[.slice (some ⟨g, 0, none⟩) S S] 39)).alloc (.cells #[.int .u32 (o.1 : Int), .int .u32 (o.2 : Int)] 44)) 44 [.int .u32 (n.1 : Int), .int .u32 (n.2 : Int)]).alloc (.cells #[.int .u32 0, .int .u32 0] 44)).kept hk
    simpa using this
  have B3 : Blk w1 (w.heap.size + 3) 44 [.int .u32 0, .int .u32 0] := by
    have := (Blk.new (((w.alloc (.cells #[.slice (some ⟨g, 0, none⟩) S S] 39)).alloc (.cells #[.int .u32 (o.1 : Int), .int .u32 (o.2 : Int)] 44)).alloc (.cells #[.int .u32 (n.1 : Int), .int .u32 (n.2 : Int)] 44)) 44 [.int .u32 0, .int .u32 0]).kept hk
    simpa using this
  have e2 := K0.cell c2
  have e3 := K0.cell c3
  have j0 := K0.cell i0
  have j1 := K0.cell i1
  have k0 : w1.cell? ⟨w.heap.size, 0, none⟩ = some (.slice (some ⟨g, 0, none⟩) S S) := B0.cell 0
  have m0 : w1.cell? ⟨w.heap.size + 1 + 1, 0, none⟩ = some (.int .u32 (n.1 : Int)) := B2.cell 0
  have m1 : w1.cell? ⟨w.heap.size + 1 + 1, 1, none⟩ = some (.int .u32 (n.2 : Int)) := B2.cell 1
  have HK := Lib.hid K0
  have HB0 := Lib.hid B0
  have HB1 := Lib.hid B1
  have HB2 := Lib.hid B2
  have HB3 := Lib.hid B3
  clear K0 B0 B1 B2 B3 hk c2 c3 i0 i1 HG
  generalize hq : w.heap.size = q at *
  have HQ := Lib.hid hq
  clear hq
  go_wp2_with fail
  go_quiet (fail)
  go_wp2_with fail
  refine (HG2.out _ (HK.out.drewN _)).mono ?_
  rintro e w2 ⟨rfl, hk2⟩
  have KK : Hid (Kept w1 w2) := Lib.hid (Kept.trans ((Kept.refl w1).drewN _) hk2)
  have HK2 : Hid (Kept w w2) := Lib.hid (HK.out.trans KK.out)
  have HB4 : Hid (Blk w2 (q + 3) 44 [.int .u32 0, .int .u32 0]) := Lib.hid (HB3.out.kept KK.out)
  have s0 : w2.cell? ⟨q, 0, none⟩ = some (.slice (some ⟨g, 0, none⟩) S S) := KK.out.cell (HB0.out.cell 0)
  have p0 : w2.cell? ⟨q + 1, 0, none⟩ = some (.int .u32 (o.1 : Int)) := KK.out.cell (HB1.out.cell 0)
  have p1 : w2.cell? ⟨q + 1, 1, none⟩ = some (.int .u32 (o.2 : Int)) := KK.out.cell (HB1.out.cell 1)
  have n0 : w2.cell? ⟨q + 1 + 1, 0, none⟩ = some (.int .u32 (n.1 : Int)) := KK.out.cell (HB2.out.cell 0)
  have n1 : w2.cell? ⟨q + 1 + 1, 1, none⟩ = some (.int .u32 (n.2 : Int)) := KK.out.cell (HB2.out.cell 1)
  have i0 := KK.out.cell j0
  have i1 := KK.out.cell j1
  clear hk2 e2 e3 k0 m0 m1 j0 j1 he HB3 HB0 HB1 HB2 HG2 HK KK
  have s2 : w2.cell? ⟨bk n.1, n.2 * 10 + 2, none⟩ = some (.int .u32 4294967295) := HK2.out.cell D2.out
  have s3 : w2.cell? ⟨bk n.1, n.2 * 10 + 3, none⟩ = some (.int .u32 4294967295) := HK2.out.cell D3.out
  clear D2 D3
  go_wp2_with fail
  go_quiet (fail)
  obtain ⟨w4, hw4⟩ : ∃ w4, w4 = w2.drewN nq := ⟨_, rfl⟩
  have HK4 : Hid (Kept w w4) := Lib.hid (by rw [hw4]; exact HK2.out.drewN _)
  have HA4 := Lib.hid (HA.out.kept HK4.out)
  have HB5 : Hid (Blk w4 (q + 3) 44 [.int .u32 0, .int .u32 0]) := Lib.hid (by rw [hw4]; exact HB4.out.drewN _)
  have q0 : w4.cell? ⟨q + 1 + 1, 0, none⟩ = some (.int .u32 (n.1 : Int)) := by rw [hw4]; exact n0
  have q1 : w4.cell? ⟨q + 1 + 1, 1, none⟩ = some (.int .u32 (n.2 : Int)) := by rw [hw4]; exact n1
  have HQ0 := Lib.hid q0
  have HQ1 := Lib.hid q1
  have y2 := HA4.out.link2 HV.out
  have y3 := HA4.out.link3 HV.out
  have y4 := HA4.out.free HV.out (o.2 * 10 + 2)
  have y5 := HA4.out.free HV.out (o.2 * 10 + 3)
  rw [← hw4]
  clear hw4 s0 s2 s3 p0 p1 n0 n1 i0 i1 hni HB4 HJ
  go_wp2_with fail
  obtain ⟨w5, hw5⟩ : ∃ w5, w5 = (w4.setCell ⟨bk o.1, o.2 * 10 + 2, none⟩ (.int .u32 (n.1 : Int))).setCell ⟨bk o.1, o.2 * 10 + 2 + 1, none⟩ (.int .u32 (n.2 : Int)) := ⟨_, rfl⟩
  have HA5 : Hid (Arena w5 g bk S (chain.put σ o n)) := Lib.hid (by rw [hw5]; exact HA4.out.put HV.out n)
  have HT5 : Hid (Turn w w5 bk S) := Lib.hid (by rw [hw5]; exact ((Turn.of_kept HK4.out bk S).setSym HV.out.1 _ _).setSym HV.out.1 _ _)
  have HC := Lib.hid (contents w5 g bk S (chain.put σ o n) n o HA5.out (put_valid.2 HVN.out) (put_valid.2 HV.out) ((put_flags n n HV.out).trans FN.out) ((put_flags n o HV.out).trans FO.out))
  have b5 : Blk w5 (q + 3) 44 [.int .u32 0, .int .u32 0] := by
    rw [hw5]
    exact (HB5.out.far (by show q + 3 ≠ bk o.1; omega) _).far (by show q + 3 ≠ bk o.1; omega) _
  have HB6 := Lib.hid b5
  have r0 : w5.cell? ⟨q + 1 + 1, 0, none⟩ = some (.int .u32 (n.1 : Int)) := by
    rw [hw5, World.cell?_setCell_far _ _ _ _ (by show bk o.1 ≠ q + 1 + 1; omega), World.cell?_setCell_far _ _ _ _ (by show bk o.1 ≠ q + 1 + 1; omega)]; exact HQ0.out
  have r1 : w5.cell? ⟨q + 1 + 1, 1, none⟩ = some (.int .u32 (n.2 : Int)) := by
    rw [hw5, World.cell?_setCell_far _ _ _ _ (by show bk o.1 ≠ q + 1 + 1; omega), World.cell?_setCell_far _ _ _ _ (by show bk o.1 ≠ q + 1 + 1; omega)]; exact HQ1.out
  have R0 := Lib.hid r0
  have R1 := Lib.hid r1
  rw [← hw5]
  clear hw5 y2 y3 y4 y5 q0 q1 HQ0 HQ1 b5 r0 r1
  refine HC.out.mono ?_
  rintro e w6 ⟨rfl, hA6, hT6⟩
  rw [put_use n n HV.out, put_use n o HV.out] at hA6
  have HA6 := Lib.hid hA6
  have HT6 := Lib.hid hT6
  have hlt : ∀ s, s < S → bk s < q := fun s hs => HLT.out s hs
  have z0 : w6.cell? ⟨q + 1 + 1, 0, none⟩ = some (.int .u32 (n.1 : Int)) := hT6.cell R0.out (fun s hs => by have := hlt s hs; show bk s ≠ q + 1 + 1; omega)
  have z1 : w6.cell? ⟨q + 1 + 1, 1, none⟩ = some (.int .u32 (n.2 : Int)) := hT6.cell R1.out (fun s hs => by have := hlt s hs; show bk s ≠ q + 1 + 1; omega)
  have HR3 : Hid (Blk w6 (q + 3) 44 [.int .u32 0, .int .u32 0]) := Lib.hid (hT6.blk HB6.out (fun s hs => by have := hlt s hs; omega))
  have l0 : w6.cell? ⟨q + 1 + 1 + 1, 0, none⟩ = some (.int .u32 0) := HR3.out.cell 0
  have l1 : w6.cell? ⟨q + 1 + 1 + 1, 1, none⟩ = some (.int .u32 0) := HR3.out.cell 1
  have f0 : w6.frozen? ⟨q + 1 + 1 + 1, 0, none⟩ = false := HR3.out.free 0
  have f1 : w6.frozen? ⟨q + 1 + 1 + 1, 1, none⟩ = false := HR3.out.free 1
  have HLT2 := Lib.hid hlt
  clear hA6 hT6 HC hlt
  go_wp2_with fail
  refine bodyPost_ret (v := .agg #[.int .u32 (n.1 : Int), .int .u32 (n.2 : Int)]) (by simp [results, Tryd.results17, go_sem, l0, l1]) rfl ?_
  refine ⟨rfl, ?_, ?_⟩
  · refine (HA6.out.far ?_ ?_ _).far ?_ ?_ _
    · show g ≠ q + 1 + 1 + 1; omega
    · intro s hs; have := HLT2.out s hs; show bk s ≠ q + 1 + 1 + 1; omega
    · show g ≠ q + 1 + 1 + 1; omega
    · intro s hs; have := HLT2.out s hs; show bk s ≠ q + 1 + 1 + 1; omega
  · refine ((HT5.out.trans HT6.out).setNew ?_ _).setNew ?_ _
    · show w.heap.size ≤ q + 1 + 1 + 1; have := HQ.out; omega
    · show w.heap.size ≤ q + 1 + 1 + 1; have := HQ.out; omega

/-- MergeSymbols, whatever the two chains -/
theorem merge (g : Nat) (bk : Nat → Nat) (S : Nat) (σ : Tab) (d : Ref → Nat) (root : Ref → Ref) (hs : chain.Sys S σ d root) (hf : ∀ q, Valid S σ q → (symAt σ q).flags = 0) (hz : ∀ s, s < S → bk s ≠ 0) (ro rn : Ref) :
    ∀ (m : Nat) (o n : Ref) (w : World), d o + d n = m → root o = ro → root n = rn → Valid S σ o → Valid S σ n → Arena w g bk S σ → Inv w → Calls Tryd.prog 17 #[mapV g S, refV o, refV n] w (Merged w g bk S σ d root ro rn o n) := by
  intro m
  induction m using Nat.strongRecOn with
  | ind m ih =>
    intro o n w hm hro hrn hv hvn hA hI
    have hcls : cls root ro rn n = rn := by unfold cls; rw [hrn]; split <;> rfl
    have hcls2 : cls root ro rn o = rn := by unfold cls; rw [hro, if_pos rfl]
    by_cases hon : o = n
    · subst hon
      have e : ro = rn := hro.symm.trans hrn
      refine (mergeSame w g bk S σ o).mono ?_
      rintro e2 w' ⟨rfl, hk⟩
      exact ⟨σ, o, rfl, hA.kept hk, Turn.of_kept hk bk S, Mg.same hs hf e, hv, hcls, Nat.le_refl _, Nat.le_refl _⟩
    by_cases hl : lnk σ o = inv
    · by_cases hln : lnk σ n = inv
      · obtain ⟨do0, ho⟩ := hs.root0 hv hl
        obtain ⟨dn0, hn⟩ := hs.root0 hvn hln
        have eo : ro = o := hro.symm.trans ho
        have en : rn = n := hrn.symm.trans hn
        subst eo en
        refine (mergeRoots w g bk S σ ro rn hA hI hz hv hvn hon hl hln (hf _ hv) (hf _ hvn)).mono ?_
        rintro e2 w' ⟨rfl, h1, h2⟩
        refine ⟨_, rn, rfl, h1, h2, Mg.new hs hA.fit.1 hf hon hv hvn hl hln, hvn, hcls, ?_, Nat.le_refl _⟩
        unfold rk
        rw [dn0, hn, if_neg (fun hh => hon hh.1.symm)]
        omega
      · obtain ⟨g1, g2, g3⟩ := hs.step hvn hln
        have hr2 : root (lnk σ n) = rn := g3.trans hrn
        refine (mergeNew w g bk S σ d root ro rn o n hA hI hz hv hvn hon hl hln (fun W a i => ih (d o + d (lnk σ n)) (by omega) o (lnk σ n) W rfl hro hr2 hv g1 a i)).mono ?_
        rintro e2 w' ⟨τ, r, rfl, h1, h2, h3, h4, h5, h6, h7⟩
        have hk : rk d root ro rn (lnk σ n) < rk d root ro rn n := by unfold rk; rw [g3]; omega
        exact ⟨_, r, rfl, h1, h2, h3.put hA.fit.1 hvn hln h4 (Nat.lt_of_le_of_lt h7 hk) (h5.trans hcls.symm), h4, h5, h6, Nat.le_of_lt (Nat.lt_of_le_of_lt h7 hk)⟩
    · obtain ⟨g1, g2, g3⟩ := hs.step hv hl
      have hr2 : root (lnk σ o) = ro := g3.trans hro
      refine (mergeOld w g bk S σ d root ro rn o n hA hI hz hv hon hl (fun W a i => ih (d (lnk σ o) + d n) (by omega) (lnk σ o) n W rfl hr2 hrn g1 hvn a i)).mono ?_
      rintro e2 w' ⟨τ, r, rfl, h1, h2, h3, h4, h5, h6, h7⟩
      have hk : rk d root ro rn (lnk σ o) < rk d root ro rn o := by unfold rk; rw [g3]; omega
      exact ⟨_, r, rfl, h1, h2, h3.put hA.fit.1 hv hl h4 (Nat.lt_of_le_of_lt h6 hk) (h5.trans hcls2.symm), h4, h5, Nat.le_of_lt (Nat.lt_of_le_of_lt h6 hk), h7⟩
end Go.Proofs.YticcbjgjjmmbcaaDoor.arena
