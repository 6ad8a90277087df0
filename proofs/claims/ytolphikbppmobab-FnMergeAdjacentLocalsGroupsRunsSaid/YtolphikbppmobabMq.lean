/-
  mergeAdjacentLocalStmts over this seat's program, whole: what the answer holds for each maximal run.
  Conditions: the row of statements is freshly built; at most 65536 statements and numbers.
-/
import Derived.Test.YtolphikbppmobabMm
namespace Go.Proofs.Ytolphikbppmobab.mj
open Go.ChangeShapes Go.WideShapes Go.ChangeAt Go.RowKit
open kit

theorem Mi.get {ks : List Nat} {xs : List Bool} {ds : List Nat} {B R n s L : Nat} {did : Bool} {rc : List Value} {W : World} (h : Mi ks xs ds B R n n s L did rc W) (hf : fst ks ds n ≤ 65536) {i j : Nat} (hS : Seg ks xs i j) (hj : j ≤ n) (hb : j = n ∨ brk ks xs j = true) :
    ∃ v, rc[cnt ks xs i * 2]? = some v ∧ rc[cnt ks xs i * 2 + 1]? = some (.int .i32 (i : Int)) ∧ OutSt W B W.heap.size v (ks.getD i 0) (xs.getD i false) (nums ks ds i j) := by
  obtain ⟨_, _, h3, h4, h5, _, h7, v0, h8, h9, h10⟩ := h
  by_cases hjs : j ≤ s
  · have hbj : brk ks xs j = true := by
      rcases hb with rfl | hb
      · have := h5.1; omega
      · exact hb
    obtain ⟨v, q1, q2, q3⟩ := h7 i j hS hbj hjs
    exact ⟨v, q1, q2, q3.mono h4⟩
  · obtain rfl : j = n := by
      rcases hb with rfl | hb
      · rfl
      · apply Classical.byContradiction
        intro hne
        have := h5.2.2 j (by omega) (by omega)
        rw [hb] at this
        cases this
    obtain rfl : i = s := by
      apply Classical.byContradiction
      intro hne
      rcases Nat.lt_or_ge i s with hlt | hge
      · have := hS.2.2 s hlt h5.1
        rw [h5.2.1] at this
        cases this
      · have := h5.2.2 i (by omega) hS.1
        rw [hS.2.1] at this
        cases this
    exact ⟨v0, h8, h9, h10.out (Nat.le_trans h3 h4) (nums_le hf (Nat.le_refl _))⟩
theorem OutSt.loc {W : World} {B L k : Nat} {v : Value} {x : Bool} {ns : List Nat} (h : OutSt W B L v k x ns) (h8 : k < 8) :
    ∃ g a c, v = PL g ∧ Blk W g 49 [.slice a ns.length c, .int .u8 (k : Int), .bool x, .bool false] ∧ ∀ d (hd : d < ns.length), ∃ b r, a = some ⟨b, 0, none⟩ ∧ W.cell? ⟨b, 0 + d * 4, none⟩ = some (PB r) ∧ Blk W r 65 [.int .u32 ((0 : Nat) : Int), .int .u32 ((ns[d] : Nat) : Int)] := by
  obtain ⟨g, _, h2, a, c, cs, q1, q2, _, q4⟩ := h.2 h8
  refine ⟨g, a, c, h2, q1, fun d hd => ?_⟩
  obtain ⟨b, cap, e1, _, _⟩ := q2.form (by omega)
  injection e1 with e1 _ e3
  subst e1 e3
  obtain ⟨r, _, r2, r3⟩ := q4.2 d hd
  have := q2.cells (g := b) rfl _ _ r2
  have hadd : (⟨b, 0, none⟩ : Addr).add (d * 4) = ⟨b, 0 + d * 4, none⟩ := by unfold Addr.add; split <;> simp_all
  rw [hadd] at this
  exact ⟨b, r, rfl, this, r3⟩

/-- the answer, run by run -/
def LPost (ks : List Nat) (xs : List Bool) (ds : List Nat) (w : World) (R n : Nat) (e : Ending) (w' : World) : Prop :=
  e = .returned (.slice (some ⟨R, 0, none⟩) (cnt ks xs n) n) ∧ Below R w w' ∧ ∃ rc B, Blk w' R 36 rc ∧ ∀ i j, Seg ks xs i j → j ≤ n → (j = n ∨ brk ks xs j = true) →
    ∃ v, rc[cnt ks xs i * 2]? = some v ∧ rc[cnt ks xs i * 2 + 1]? = some (.int .i32 (i : Int)) ∧ OutSt w' B w'.heap.size v (ks.getD i 0) (xs.getD i false) (nums ks ds i j)
theorem start {ks : List Nat} {xs : List Bool} {ds : List Nat} {w : World} {R n : Nat} (h : Sts 0 w R n ks xs ds n) (hn : 1 ≤ n) : ∃ rc, Mi ks xs ds w.heap.size R n 1 0 w.heap.size false rc w := by
  obtain ⟨rc, h1, h2, h3⟩ := h
  have hs : ∀ j, j < n → ∃ v, rc[j * 2]? = some v ∧ rc[j * 2 + 1]? = some (.int .i32 (j : Int)) ∧ IsS w w.heap.size v (ks.getD j 0) (xs.getD j false) (nums ks ds j (j + 1)) := fun j hj => by
    obtain ⟨v, v1, v2, v3⟩ := h3 j hj
    refine ⟨v, v1, v2, v3.isS.1, fun h8 => ?_⟩
    rw [nums_one j h8]
    exact v3.isS.2 h8
  obtain ⟨v, v1, v2, v3⟩ := hs 0 hn
  exact ⟨rc, h1, h2, Nat.le_refl _, Nat.le_refl _, Seg.one rfl, fun j _ hj => hs j hj, fun s' e' hs' _ he => by have := hs'.1; omega, v, v1, v2, fun _ => ⟨rfl, v3⟩, fun h => (by cases h)⟩
theorem MPost.l {ks : List Nat} {xs : List Bool} {ds : List Nat} {w : World} {B R n : Nat} {e : Ending} {w' : World} (hf : fst ks ds n ≤ 65536) (h : MPost ks xs ds w B R n e w') : LPost ks xs ds w R n e w' := by
  obtain ⟨s, L, did, rc, h1, h2, h3⟩ := h
  exact ⟨h1, h3, rc, B, h2.1, fun i j hS hj hb => h2.get hf hS hj hb⟩
theorem merge0 (R : Nat) (w : World) : Calls Try.prog 15 #[.slice (some ⟨R, 0, none⟩) 0 0] w fun e w' => e = .returned (.slice (some ⟨R, 0, none⟩) 0 0) ∧ w = w' := by
  go_enter Try.func15, Try.ntmps15
  go_wp2_with fail
  go_ret
  exact ⟨rfl, rfl⟩
theorem merge1 (R : Nat) (w : World) : Calls Try.prog 15 #[.slice (some ⟨R, 0, none⟩) 1 1] w fun e w' => e = .returned (.slice (some ⟨R, 0, none⟩) 1 1) ∧ w = w' := by
  go_enter Try.func15, Try.ntmps15
  go_wp2_with fail
  go_loop [4, 19] (fun t4 t19 => t4 = .int .i64 1 ∧ t19 = .int .i64 0) (fun _ _ => 0)
  case atStart => exact ⟨rfl, rfl⟩
  case round =>
    obtain ⟨rfl, rfl⟩ := hrel
    go_wp2_with fail
    go_ret
    exact ⟨rfl, rfl⟩
theorem merge15 (ks : List Nat) (xs : List Bool) (ds : List Nat) (w : World) (R n : Nat) (hf : fst ks ds n ≤ 65536) (hn : n ≤ 65536) (h : Sts 0 w R n ks xs ds n) :
    Calls Try.prog 15 #[.slice (some ⟨R, 0, none⟩) n n] w (LPost ks xs ds w R n) := by
  by_cases h0 : n = 0
  · subst h0
    refine (merge0 R w).mono ?_
    rintro e w' ⟨rfl, rfl⟩
    obtain ⟨rc, h1, _⟩ := h
    exact ⟨rfl, Below.refl _ _, rc, 0, h1, fun i j hS hj _ => by have := hS.1; omega⟩
  · obtain ⟨rc, hm⟩ := start h (by omega)
    by_cases h1 : n = 1
    · subst h1
      refine (merge1 R w).mono ?_
      rintro e w' ⟨rfl, rfl⟩
      exact MPost.l hf ⟨0, _, false, rc, rfl, hm, Below.refl _ _⟩
    · refine (merge ks xs ds w w.heap.size R n rc hf (by omega) hn (Nat.le_of_lt hm.1.lt) hm).mono ?_
      intro e w' hp
      exact MPost.l hf hp
theorem merge9 (ks : List Nat) (xs : List Bool) (ds : List Nat) (w : World) (R n : Nat) (hf : fst ks ds n ≤ 65536) (hn : n ≤ 65536) (h : Sts 0 w R n ks xs ds n) :
    Calls Try.prog 9 #[.slice (some ⟨R, 0, none⟩) n n] w (LPost ks xs ds w R n) := by
  have H := Lib.hid (merge15 ks xs ds w R n hf hn h)
  clear hf h
  go_enter Try.func9, Try.ntmps9
  go_wp2_with fail
  refine H.out.mono ?_
  rintro e w' ⟨rfl, h2⟩
  have H2 := Lib.hid h2
  clear h2
  go_wp2_with fail
  go_ret
  exact ⟨rfl, H2.out⟩
end Go.Proofs.Ytolphikbppmobab.mj
