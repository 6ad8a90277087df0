/-
  A world of its own for a goroutine, with what it may read.
  Conditions: none; no program in sight.
-/
import Derived.Test.YtgjhmbbbkkidlaaGreatDoorJd
namespace Go.Proofs.YtgjhmbbbkkidlaaGreatDoor.sim
open Go
open Go.Conc
theorem VR.total (ρ : Rn) : ∀ (n : Nat) (v' : Value), SizeOf.sizeOf v' < n → ∃ v, VR ρ v v' := by
  intro n
  induction n with
  | zero => intro v' h; omega
  | succ n ih =>
    have arr : ∀ x : Array Value, SizeOf.sizeOf x < n → ∃ y : Array Value, y.size = x.size ∧ ∀ (i : Nat) (v v' : Value), y[i]? = some v → x[i]? = some v' → VR ρ v v' := by
      intro x hx
      have h : ∀ v' : Value, ∃ v, v' ∈ x → VR ρ v v' := fun v' => by
        by_cases hm : v' ∈ x
        · have : SizeOf.sizeOf v' < SizeOf.sizeOf x := Array.sizeOf_lt_of_mem hm
          obtain ⟨v, hv⟩ := ih v' (by omega)
          exact ⟨v, fun _ => hv⟩
        · exact ⟨v', fun h => (hm h).elim⟩
      obtain ⟨f, hf⟩ := Classical.axiomOfChoice h
      refine ⟨x.map f, by simp, fun i v v' h1 h2 => ?_⟩
      rw [Array.getElem?_map, h2] at h1
      cases h1
      exact hf v' (Array.mem_of_getElem? h2)
    intro v' h
    cases v' with
    | bool b => exact ⟨_, .bool b⟩
    | int k m => exact ⟨_, .int k m⟩
    | float k m => exact ⟨_, .float k m⟩
    | complex k a b => exact ⟨_, .junk trivial⟩
    | string s => exact ⟨_, .string s⟩
    | pointer a => cases a with
      | none => exact ⟨_, .nilPtr⟩
      | some a => exact ⟨_, .junk trivial⟩
    | slice a l c => cases a with
      | none => exact ⟨_, .nilSlice l c⟩
      | some a => exact ⟨_, .junk trivial⟩
    | map r => exact ⟨_, .map r⟩
    | chan r => exact ⟨_, .chan r⟩
    | func fn x y =>
      have hs : SizeOf.sizeOf (Value.func fn x y) = 1 + SizeOf.sizeOf fn + SizeOf.sizeOf x + SizeOf.sizeOf y := by simp
      obtain ⟨x2, h1, h2⟩ := arr x (by omega)
      obtain ⟨y2, h3, h4⟩ := arr y (by omega)
      exact ⟨_, .func h1 h2 h3 h4⟩
    | nilFunc => exact ⟨_, .nilFunc⟩
    | iface t u =>
      have hs : SizeOf.sizeOf (Value.iface t u) = 1 + SizeOf.sizeOf t + SizeOf.sizeOf u := by simp
      obtain ⟨u2, h1⟩ := ih u (by omega)
      exact ⟨_, .iface h1⟩
    | nilIface => exact ⟨_, .nilIface⟩
    | agg x =>
      have hs : SizeOf.sizeOf (Value.agg x) = 1 + SizeOf.sizeOf x := by simp
      obtain ⟨x2, h1, h2⟩ := arr x (by omega)
      exact ⟨_, .agg h1 h2⟩
    | tuple x =>
      have hs : SizeOf.sizeOf (Value.tuple x) = 1 + SizeOf.sizeOf x := by simp
      obtain ⟨x2, h1, h2⟩ := arr x (by omega)
      exact ⟨_, .tuple h1 h2⟩
open Classical in
/-- a value for v', the wanted one where it will do -/
noncomputable def pick (ρ : Rn) (p v' : Value) : Value := if VR ρ p v' then p else Classical.choose (VR.total ρ _ v' (Nat.lt_succ_self _))
theorem pick_VR (ρ : Rn) (p v' : Value) : VR ρ (pick ρ p v') v' := by
  unfold pick
  split
  · assumption
  · exact Classical.choose_spec (VR.total ρ _ v' (Nat.lt_succ_self _))
theorem pick_eq {ρ : Rn} {p v' : Value} (h : VR ρ p v') : pick ρ p v' = p := if_pos h
def rowOf (w : World) (b : Nat) : Array Value := match w.heap[b]? with | some (.cells c _ _) => c | _ => #[]
def typOf (w : World) (b : Nat) : TypeId := match w.heap[b]? with | some (.cells _ e _) => e | _ => 0
open Classical in
noncomputable def tgt (ρ : Rn) (b : Nat) : Nat := if h : ∃ b', ρ.rel b b' then Classical.choose h else b
theorem tgt_eq {ρ : Rn} {b b' : Nat} (r : ρ.rel b b') : tgt ρ b = b' := by
  have h : ∃ b', ρ.rel b b' := ⟨b', r⟩
  unfold tgt
  rw [dif_pos h]
  exact ρ.fn _ _ _ (Classical.choose_spec h) r
/-- the cells of block b: at most m b of them; the wanted values are v's -/
noncomputable def iceRow (ρ : Rn) (v w : World) (m : Nat → Nat) (b : Nat) : Array Value :=
  Array.ofFn (n := min (m b) (rowOf w (tgt ρ b)).size) fun i => pick ρ ((rowOf v b).getD i undef) ((rowOf w (tgt ρ b)).getD i undef)
/-- v's blocks, all of them rows, all of them frozen -/
noncomputable def ice (ρ : Rn) (v w : World) (m : Nat → Nat) : World :=
  { v with heap := Array.ofFn (n := v.heap.size) fun b => .cells (iceRow ρ v w m b) (typOf w (tgt ρ b)) (0, (iceRow ρ v w m b).size) }
theorem ice_heap {ρ : Rn} {v w : World} {m : Nat → Nat} {b : Nat} (h : b < v.heap.size) : (ice ρ v w m).heap[b]? = some (.cells (iceRow ρ v w m b) (typOf w (tgt ρ b)) (0, (iceRow ρ v w m b).size)) := by
  show (Array.ofFn _)[b]? = _
  rw [Array.getElem?_ofFn, dif_pos h]
theorem ice_size (ρ : Rn) (v w : World) (m : Nat → Nat) : (ice ρ v w m).heap.size = v.heap.size := by simp [ice]
theorem iceRow_get {ρ : Rn} {v w : World} {m : Nat → Nat} {b i : Nat} (h : i < m b) (h2 : i < (rowOf w (tgt ρ b)).size) : (iceRow ρ v w m b)[i]? = some (pick ρ ((rowOf v b).getD i undef) ((rowOf w (tgt ρ b)).getD i undef)) := by
  unfold iceRow
  rw [Array.getElem?_ofFn, dif_pos (by omega)]
theorem iceRow_size {ρ : Rn} {v w : World} {m : Nat → Nat} {b : Nat} : (iceRow ρ v w m b).size = min (m b) (rowOf w (tgt ρ b)).size := by simp [iceRow]
theorem ice_wh {ρ : Rn} {v w : World} {m : Nat → Nat} (hrel : ∀ b b', ρ.rel b b' → b < v.heap.size ∧ ∃ c e fr, w.heap[b']? = some (.cells c e fr)) (hown : ∀ b, ¬ ρ.own b) (h0 : ρ.g0 ≤ v.heap.size) (h1 : ρ.g0 ≤ w.heap.size) : WH ρ (ice ρ v w m) w := by
  refine ⟨fun b b' r => .inl ?_, ⟨by rw [ice_size]; exact h0, h1⟩, fun b o => (hown b o).elim, fun b => ?_⟩
  · obtain ⟨hb, c, e, fr, hc⟩ := hrel b b' r
    have et := tgt_eq r
    have er : rowOf w b' = c := by unfold rowOf; rw [hc]
    have ety : typOf w b' = e := by unfold typOf; rw [hc]
    refine ⟨_, _, _, c, fr, ice_heap hb, ?_, ?_, .inr ⟨hown b, fun i hi => ⟨Nat.zero_le _, hi⟩⟩⟩
    · rw [et, ety]; exact hc
    · refine ⟨by rw [iceRow_size, et, er]; exact Nat.min_le_right _ _, fun i x hx => ?_⟩
      have hi : i < min (m b) (rowOf w (tgt ρ b)).size := by
        have := (Array.getElem?_eq_some_iff.1 hx).1
        rw [iceRow_size] at this
        exact this
      have hic : i < c.size := by rw [et, er] at hi; omega
      rw [iceRow_get (by omega) (by omega), et, er] at hx
      cases hx
      refine ⟨c[i], Array.getElem?_eq_getElem hic, ?_⟩
      have : c.getD i undef = c[i] := by simp [Array.getD_eq_getD_getElem?, hic]
      rw [this]
      exact pick_VR _ _ _
  · by_cases hb : b < v.heap.size
    · exact .inr (.inl ⟨_, _, _, ice_heap hb⟩)
    · exact .inl (Array.getElem?_eq_none (by rw [ice_size]; omega))
theorem row_cell {w : World} {b i : Nat} {x : Value} (h : w.cell? ⟨b, i, none⟩ = some x) : b < w.heap.size ∧ i < (rowOf w b).size ∧ (rowOf w b).getD i undef = x := by
  unfold World.cell? at h
  unfold rowOf
  dsimp only at h
  cases e : w.heap[b]? with
  | none => rw [e] at h; cases h
  | some o =>
    rw [e] at h
    cases o with
    | cells c t fr =>
      dsimp only at h ⊢
      have h : c[i]? = some x := h
      obtain ⟨hi, hx⟩ := Array.getElem?_eq_some_iff.1 h
      exact ⟨(Array.getElem?_eq_some_iff.1 e).1, hi, by simp [Array.getD_eq_getD_getElem?, h]⟩
    | _ => cases h
/-- a wanted cell -/
theorem ice_cell {ρ : Rn} {v w : World} {m : Nat → Nat} {b b' i : Nat} {x x' : Value} (r : ρ.rel b b') (hm : i < m b) (hv : v.cell? ⟨b, i, none⟩ = some x) (hw : w.cell? ⟨b', i, none⟩ = some x') (hx : VR ρ x x') : (ice ρ v w m).cell? ⟨b, i, none⟩ = some x := by
  obtain ⟨v1, v2, v3⟩ := row_cell hv
  obtain ⟨w1, w2, w3⟩ := row_cell hw
  unfold World.cell?
  dsimp only
  rw [ice_heap v1]
  show (iceRow ρ v w m b)[i]? = some x
  rw [iceRow_get hm (by rw [tgt_eq r]; exact w2), tgt_eq r, v3, w3, pick_eq hx]
theorem ice_bound {ρ : Rn} {v w : World} {m : Nat → Nat} {b i : Nat} {x : Value} (h : (ice ρ v w m).cell? ⟨b, i, none⟩ = some x) : i < m b := by
  obtain ⟨h1, h2, h3⟩ := row_cell h
  rw [ice_size] at h1
  have e : rowOf (ice ρ v w m) b = iceRow ρ v w m b := by unfold rowOf; rw [ice_heap h1]
  rw [e, iceRow_size] at h2
  omega
end Go.Proofs.YtgjhmbbbkkidlaaGreatDoor.sim
