/-
  What a new worker is handed, out of what the starter knows.
  Conditions: none.
-/
import Derived.Test.YtgjhmbbbkkidlaaGreatDoorXj
import Derived.Test.YtgjhmbbbkkidlaaGreatDoorWef
namespace Go.Proofs.YtgjhmbbbkkidlaaGreatDoor.hash
open Go.ChangeShapes Go.WideShapes Go.ChangeAt Go.RowKit
open Go.Proofs.YtgjhmbbbkkidlaaGreatDoor.kit
open Go.Conc
open Go.Proofs.YtgjhmbbbkkidlaaGreatDoor.sim (Sit Dsc Own Rn WH WR ArR VR View Sees Fresh ice ice_cell ice_wh ice_size ice_bound rowOf row_cell goodV goodV_VR AdR)
theorem wh_cell {ρ : Rn} {v w : World} (h : WH ρ v w) {b b' i : Nat} {x : Value} (r : ρ.rel b b') (hv : v.cell? ⟨b, i, none⟩ = some x) : ∃ x', w.cell? ⟨b', i, none⟩ = some x' ∧ VR ρ x x' := by
  rcases h.rng b b' r with ⟨c, e, fr, c', fr', h1, h2, h3, _⟩ | ⟨a, a', l, h1, _⟩
  · unfold World.cell? at hv ⊢
    dsimp only at hv ⊢
    rw [h1] at hv
    rw [h2]
    exact h3.2 i x hv
  · unfold World.cell? at hv
    dsimp only at hv
    rw [h1] at hv
    cases hv
theorem wh_row {ρ : Rn} {v w : World} (h : WH ρ v w) {b b' : Nat} (r : ρ.rel b b') (hv : IsRow v b) : b < v.heap.size ∧ IsRow w b' := by
  obtain ⟨c0, e0, fr0, hc0⟩ := hv
  rcases h.rng b b' r with ⟨c, e, fr, c', fr', h1, h2, h3, _⟩ | ⟨a, a', l, h1, _⟩
  · exact ⟨(Array.getElem?_eq_some_iff.1 h1).1, c', e, fr', h2⟩
  · rw [h1] at hc0
    cases hc0
/-- the relation, on rows alone, nothing one's own -/
def rowsOf (ρ : Rn) (v : World) : Rn where
  rel := fun b b' => ρ.rel b b' ∧ IsRow v b
  own := fun _ => False
  g0 := ρ.g0
  fn := fun a b c h1 h2 => ρ.fn a b c h1.1 h2.1
  inj := fun a b c h1 h2 => ρ.inj a b c h1.1 h2.1
  low := fun a b h l => ρ.low a b h.1 l
/-- values that keep their meaning -/
def OkX (v : World) (x : Value) : Prop := goodV x = true ∨ (∃ a, x = .pointer (some a) ∧ IsRow v a.block) ∨ ∃ a l c, x = .slice (some a) l c ∧ (0 < l + c → IsRow v a.block)
theorem vr_rows {ρ : Rn} {v : World} {x x' : Value} (h : VR ρ x x') (hx : OkX v x) : VR (rowsOf ρ v) x x' := by
  rcases hx with hx | ⟨a, rfl, hr⟩ | ⟨a, l, c, rfl, hr⟩
  · cases h with
    | bool b => exact .bool b
    | int k n => exact .int k n
    | float k n => exact .float k n
    | string s => exact .string s
    | nilPtr => exact .nilPtr
    | nilSlice l c => exact .nilSlice l c
    | map r => exact .map r
    | chan r => exact .chan r
    | nilFunc => exact .nilFunc
    | nilIface => exact .nilIface
    | _ => cases hx
  · cases h with
    | ptr r => exact .ptr ⟨⟨r.1, hr⟩, r.2⟩
  · cases h with
    | slice l c r => exact .slice l c fun p => ⟨⟨(r p).1, hr p⟩, (r p).2⟩
theorem rel_ptr {ρ : Rn} {a : Addr} {x' : Value} (h : VR ρ (.pointer (some a)) x') : ∃ b', ρ.rel a.block b' := by
  cases h with
  | ptr r => exact ⟨_, r.1⟩
theorem rel_slice {ρ : Rn} {a : Addr} {l c : Nat} {x' : Value} (h : VR ρ (.slice (some a) l c) x') (hp : 0 < l + c) : ∃ b', ρ.rel a.block b' := by
  cases h with
  | slice l c r => exact ⟨_, (r hp).1⟩
theorem blk_row {w : World} {b t : Nat} {cs : List Value} (h : Blk w b t cs) : IsRow w b := ⟨_, _, _, h⟩
section
variable {ρ : Rn} {v w w0 : World} {m : Nat → Nat} {lb cb k : Nat} {path : ByteArray} {ls : List (List Int)}
/-- what the worker reads is in its world -/
theorem rd_ice (h : Ready v path ls lb cb) (wh : WH ρ v w0) {lb' cb' : Nat} (rl : ρ.rel lb lb') (rc : ρ.rel cb cb') (hg1 : ρ.rel 1 1) (hk : k < 2) (hm : ∀ b, b ≠ cb → (rowOf w (sim.tgt (rowsOf ρ v) b)).size ≤ m b) (hmc : k * 22 + 14 ≤ m cb) (hmc8 : True)
    (same : ∀ b' i, w0.cell? ⟨b', i, none⟩ ≠ none → (b' = cb' → i ≠ 8 ∧ i ≠ 30) → w.cell? ⟨b', i, none⟩ = w0.cell? ⟨b', i, none⟩) : Rd (ice (rowsOf ρ v) v w m) lb cb (k * 22) path ls := by
  have cells : ∀ b i x, v.cell? ⟨b, i, none⟩ = some x → (∃ b', ρ.rel b b') → (b = cb → i ≠ 8 ∧ i ≠ 30 ∧ i < m cb) → OkX v x → (ice (rowsOf ρ v) v w m).cell? ⟨b, i, none⟩ = some x := by
    intro b i x hv hb hc hx
    obtain ⟨b', r⟩ := hb
    obtain ⟨x', hw, hvr⟩ := wh_cell wh r hv
    have hww : w.cell? ⟨b', i, none⟩ = some x' := by
      rw [same b' i (by rw [hw]; simp) fun e => ?_]
      · exact hw
      · subst e
        have := ρ.inj _ _ _ r rc
        exact ⟨(hc this).1, (hc this).2.1⟩
    have r' : (rowsOf ρ v).rel b b' := ⟨r, isRow_of hv⟩
    refine ice_cell r' ?_ hv hww (vr_rows hvr hx)
    by_cases e : b = cb
    · subst e; exact (hc rfl).2.2
    · have := hm b e
      have h2 := (row_cell hww).2.1
      rw [sim.tgt_eq r'] at this
      omega
  obtain ⟨ob, lcs, ocs, hL, hL0, hL17, hO, hO31⟩ := h.l
  obtain ⟨ccs, hC, hlen, hch⟩ := h.c
  obtain ⟨z, pb, pcs, h13, hP, hpc⟩ := hch k hk
  have hlc : lb ≠ cb := hL.apart hC (by decide)
  have hoc : ob ≠ cb := hO.apart hC (by decide)
  have hpcb : pb ≠ cb := hP.apart hC (by decide)
  have vl0 : v.cell? ⟨lb, 0, none⟩ = some (.pointer (some ⟨ob, 0, none⟩)) := (hL.cell 0).trans hL0
  have v13 : v.cell? ⟨cb, k * 22 + 13, none⟩ = some (.slice (some ⟨pb, 0, none⟩) ls.length ls.length) := (hC.cell _).trans h13
  have ro : ∃ b', ρ.rel ob b' := by
    obtain ⟨x', _, hvr⟩ := wh_cell wh rl vl0
    exact rel_ptr hvr
  have cc : ∀ o x, o < 14 → o ≠ 8 → ccs[k * 22 + o]? = some x → OkX v x → (ice (rowsOf ρ v) v w m).cell? ⟨cb, k * 22 + o, none⟩ = some x := fun o x ho h8 hx hok =>
    cells cb _ x ((hC.cell _).trans hx) ⟨cb', rc⟩ (fun _ => ⟨by omega, by omega, by omega⟩) hok
  refine ⟨cells 1 0 _ h.g1 ⟨1, hg1⟩ (fun e => ?_) (.inl rfl), cc 4 _ (by omega) (by omega) z.1 (.inl rfl), cc 5 _ (by omega) (by omega) z.2.1 (.inl rfl), cc 10 _ (by omega) (by omega) z.2.2.1 (.inl rfl), cc 11 _ (by omega) (by omega) z.2.2.2.1 (.inl rfl), cc 12 _ (by omega) (by omega) z.2.2.2.2 (.inl rfl), ⟨pb, ?_, fun i hi => ?_⟩, ⟨ob, cells lb 0 _ vl0 ⟨lb', rl⟩ (fun e => (hlc e).elim) (.inr (.inl ⟨_, rfl, blk_row hO⟩)), cells ob 31 _ ((hO.cell 31).trans hO31) ro (fun e => (hoc e).elim) (.inl rfl)⟩, by have := h.hn; omega, by have := h.hq; omega⟩
  · subst e
    have := (hC.cell 0).symm.trans h.g1
    exact ⟨by omega, by omega, by omega⟩
  · exact cc 13 _ (by omega) (by omega) h13 (.inr (.inr ⟨_, _, _, rfl, fun _ => blk_row hP⟩))
  · obtain ⟨A, x, y, p0, p1, p2, p6, p7⟩ := hpc i hi
    have rp : ∃ b', ρ.rel pb b' := by
      obtain ⟨x', _, hvr⟩ := wh_cell wh rc v13
      exact rel_slice hvr (by omega)
    have vp0 : v.cell? ⟨pb, i * 3, none⟩ = some (.slice A (ls.getD i []).length (ls.getD i []).length) := (hP.cell _).trans p0
    refine ⟨A, _, x, y, cells pb _ _ vp0 rp (fun e => (hpcb e).elim) ?_, cells pb _ _ ((hP.cell _).trans p1) rp (fun e => (hpcb e).elim) (.inl rfl), cells pb _ _ ((hP.cell _).trans p2) rp (fun e => (hpcb e).elim) (.inl rfl), Nat.le_refl _, by unfold maxLen; omega, by omega, fun hp => ?_⟩
    · cases A with
      | none => exact .inl rfl
      | some a =>
        refine .inr (.inr ⟨a, _, _, rfl, fun hp => ?_⟩)
        obtain ⟨b, o, e, _, hb⟩ := p7 (by omega)
        cases e
        exact isRow_of (hb 0 (by omega))
    · obtain ⟨b, o, e, hne, hb⟩ := p7 hp
      refine ⟨b, o, e, fun j hj => cells b _ _ (hb j hj) ?_ (fun e => (hne e).elim) (.inl rfl)⟩
      subst e
      obtain ⟨rp', hrp⟩ := rp
      obtain ⟨x', _, hvr⟩ := wh_cell wh hrp vp0
      exact rel_slice hvr (by omega)
end
end Go.Proofs.YtgjhmbbbkkidlaaGreatDoor.hash
/-
  A worker as the starter makes it.
  Conditions: none.
-/
namespace Go.Proofs.YtgjhmbbbkkidlaaGreatDoor.hash
open Go.ChangeShapes Go.WideShapes Go.ChangeAt Go.RowKit
open Go.Proofs.YtgjhmbbbkkidlaaGreatDoor.kit
open Go.Conc
open Go.Proofs.YtgjhmbbbkkidlaaGreatDoor.sim (Sit Dsc Own Rn WH WR ArR VR View Sees Fresh ice ice_cell ice_wh ice_size ice_bound rowOf row_cell goodV goodV_VR AdR)
/-- what the starter knows: its own memory's relation to the company's, the linker context, the chunks -/
structure Kw (ρ : Rn) (v : World) (path : ByteArray) (ls : List (List Int)) (lb cb lb' cb' : Nat) (cc' : Array Value) (F1 : View) : Prop where
  ready : Ready v path ls lb cb
  rl : ρ.rel lb lb'
  rc : ρ.rel cb cb'
  wh : ∀ w, Sees F1 w → WH ρ v w
  g0 : 2 ≤ ρ.g0
  hg : ∀ g, g < 2 → ρ.rel g g
  own0 : ¬ ρ.own 0
  rng : ∀ b b', ρ.rel b b' → (F1 b').isSome = true
  cells : F1 cb' = some (.cells cc' 146 (0, 0))
  size : cc'.size = 44
  lk : ∃ lc lt lf, F1 lb' = some (.cells lc lt lf) ∧ lc[17]? = some (.slice (some ⟨cb', 0, none⟩) 2 2)
/-- a later view -/
structure Later (F1 : View) (cb' : Nat) (cc' : Array Value) (Fk : View) (ck : Array Value) : Prop where
  keep : ∀ b o, F1 b = some o → b ≠ cb' → Fk b = some o
  cells : Fk cb' = some (.cells ck 146 (0, 0))
  size : ck.size = 44
  same : ∀ i, i ≠ 8 → i ≠ 30 → ck[i]? = cc'[i]?
section
variable {ρ : Rn} {v : World} {path : ByteArray} {ls : List (List Int)} {lb cb lb' cb' : Nat} {cc' ck : Array Value} {F1 Fk : View}
theorem Later.back (h : Later F1 cb' cc' Fk ck) (hF : F1 cb' = some (.cells cc' 146 (0, 0))) {w : World} (hw : Sees Fk w) : ∃ w0 : World, Sees F1 w0 ∧ w0.heap.size = w.heap.size ∧ ∀ b' i, (b' = cb' → i ≠ 8 ∧ i ≠ 30) → w.cell? ⟨b', i, none⟩ = w0.cell? ⟨b', i, none⟩ := by
  have hc := hw cb' _ h.cells
  have hlt : cb' < w.heap.size := (Array.getElem?_eq_some_iff.1 hc).1
  have same : ∀ b, b ≠ cb' → (w.heap.setIfInBounds cb' (.cells cc' 146 (0, 0)))[b]? = w.heap[b]? := fun b hb => Array.getElem?_setIfInBounds_ne (Ne.symm hb)
  have here : (w.heap.setIfInBounds cb' (Obj.cells cc' 146 (0, 0)))[cb']? = some (.cells cc' 146 (0, 0)) := Array.getElem?_setIfInBounds_self_of_lt hlt
  refine ⟨{ w with heap := w.heap.setIfInBounds cb' (.cells cc' 146 (0, 0)) }, fun b o hb => ?_, by simp, fun b' i hi => ?_⟩
  · by_cases e : b = cb'
    · subst e
      rw [hF] at hb
      cases hb
      exact here
    · exact (same b e).trans (hw b o (h.keep b o hb e))
  · unfold World.cell?
    dsimp only
    by_cases e : b' = cb'
    · subst e
      rw [here, hc]
      exact h.same i (hi rfl).1 (hi rfl).2
    · rw [same b' e]
theorem fresh_of (K : Kw ρ v path ls lb cb lb' cb' cc' F1) (h : Later F1 cb' cc' Fk ck) {n : Nat} {tm : Bool} (hn : Fk n = some (.chan 1 #[] false 0 0 tm)) {k : Nat} (hk : k < 2) {w : World} (hw : Sees Fk w) :
    ∃ d s, Fresh Tryz.prog Fk w d s (born Tryz.prog (dcall 18 (args18 lb' cb' (k * 22) n))) ∧ d.c = n ∧ d.H = hashOf path ls ∧ (k = 0 → ¬ d.RO ⟨cb', 30, none⟩) := by
  obtain ⟨w0, hw0, hsz0, hcell⟩ := h.back K.cells hw
  have wh := K.wh w0 hw0
  have hm : ∀ b, b ≠ cb → (rowOf w (sim.tgt (rowsOf ρ v) b)).size ≤ (fun b => if b = cb then k * 14 + 30 else (rowOf w (sim.tgt (rowsOf ρ v) b)).size) b := fun b hb => by
    dsimp only
    rw [if_neg hb]
    exact Nat.le_refl _
  have hmc : k * 22 + 14 ≤ (fun b => if b = cb then k * 14 + 30 else (rowOf w (sim.tgt (rowsOf ρ v) b)).size) cb := by
    dsimp only
    rw [if_pos rfl]
    omega
  have hrd := rd_ice (w := w) K.ready wh K.rl K.rc (K.hg 1 (by omega)) hk hm hmc trivial (fun b' i _ hi => hcell b' i hi)
  obtain ⟨ob, lcs, ocs, hL, _⟩ := K.ready.l
  obtain ⟨ccs, hC, _⟩ := K.ready.c
  have hrow : ∀ b b', (rowsOf ρ v).rel b b' → b < v.heap.size ∧ ∃ c e fr, w.heap[b']? = some (Obj.cells c e fr) := by
    intro b b' r
    obtain ⟨h1, c, e, fr, h2⟩ := wh_row wh r.1 r.2
    refine ⟨h1, ?_⟩
    have hs := K.rng b b' r.1
    cases hf : F1 b' with
    | none => rw [hf] at hs; cases hs
    | some o =>
      by_cases e' : b' = cb'
      · subst e'; exact ⟨_, _, _, hw b' _ h.cells⟩
      · have := hw0 b' o hf
        rw [h2] at this
        cases this
        exact ⟨_, _, _, hw b' _ (h.keep b' _ hf e')⟩
  have lt2 : ∀ g, g < 2 → IsRow v g := by
    intro g hg
    match g, hg with
    | 1, _ => exact isRow_of K.ready.g1
    | 0, _ =>
      rcases wh.rng 0 0 (K.hg 0 (by omega)) with ⟨c, e, fr, c', fr', h1, _⟩ | ⟨a, a', l, h1, _, _, ho⟩
      · exact ⟨c, e, fr, h1⟩
      · exact (K.own0 ho).elim
  have hwh := ice_wh (ρ := rowsOf ρ v) (m := fun b => if b = cb then k * 14 + 30 else (rowOf w (sim.tgt (rowsOf ρ v) b)).size) hrow (fun _ o => o) wh.g0.1 (by rw [← hsz0]; exact wh.g0.2)
  have hsome : ∀ b b', (rowsOf ρ v).rel b b' → (Fk b').isSome = true := by
    intro b b' r
    by_cases e : b' = cb'
    · subst e; rw [h.cells]; rfl
    · have hs := K.rng b b' r.1
      cases hf : F1 b' with
      | none => rw [hf] at hs; cases hs
      | some o => rw [h.keep b' o hf e]; rfl
  have a1 : AdR (rowsOf ρ v) ⟨lb, 0, none⟩ ⟨lb', 0, none⟩ := ⟨⟨K.rl, blk_row hL⟩, rfl, rfl⟩
  have a2 : AdR (rowsOf ρ v) ⟨cb, k * 22, none⟩ ⟨cb', k * 22, none⟩ := ⟨⟨K.rc, blk_row hC⟩, rfl, rfl⟩
  have hargs : ArR (rowsOf ρ v) (args18 lb cb (k * 22) n) (args18 lb' cb' (k * 22) n) :=
    (((ArR.nil _).push (.ptr a1)).push (.ptr a2)).push (.chan _)
  refine ⟨_, _, fresh_worker hrd hwh (by rw [nglob]; exact K.g0) (fun g hg => by rw [nglob] at hg; exact ⟨K.hg g hg, lt2 g hg⟩) (fun _ o => o) hsome hn hargs, rfl, rfl, fun hk0 hro => ?_⟩
  subst hk0
  obtain ⟨_, b, x, r, hx⟩ := hro
  have e : b = cb := ρ.inj _ _ _ r.1 K.rc
  subst e
  have := ice_bound hx
  dsimp only at this
  rw [if_pos rfl] at this
  omega
end
end Go.Proofs.YtgjhmbbbkkidlaaGreatDoor.hash
