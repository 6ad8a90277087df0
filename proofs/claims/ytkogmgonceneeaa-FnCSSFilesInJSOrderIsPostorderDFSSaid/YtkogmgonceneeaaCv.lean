/-
  What findImportedCSSFilesInJSOrder's visit reads and turns: the captured variables, the map of what has been visited, the order.
  Conditions: none.
-/
import Derived.Test.YtkogmgonceneeaaCg
import Derived.Test.YtkogmgonceneeaaMapF
namespace Go.Proofs.Ytkogmgonceneeaa.css
open Go.ChangeShapes Go.WideShapes Go.ChangeAt Go.RowKit
open kit dfs
open Go.Maps (Keyed)
open Go.ChangeMaps (setBlock)

theorem K23 : Keyed Try.prog 23 := Go.Maps.int_keyed Try.underlying23
theorem key23 (v : Nat) (h : v ≤ 4294967295) : keyOf Try.prog 23 (.int .u32 (v : Int)) = some (.int .u32 (v : Int)) := by
  have hw : (Lit.int .u32 (v : Int)).wf = true := by
    simp only [Lit.wf, Bool.and_eq_true, decide_eq_true_eq]
    have a : (0 : Int) ≤ (v : Int) := by omega
    have b : (v : Int) ≤ 4294967295 := by omega
    exact ⟨a, b⟩
  unfold keyOf
  rw [Try.underlying23]
  show mapKey Try.prog 23 _ = _
  unfold mapKey
  rw [Try.underlying23]
  show (if IntKind.u32 = IntKind.u32 ∧ _ then _ else _) = _
  rw [if_pos ⟨rfl, hw⟩]
/-- what the map answers -/
def vis (d : Nat → Bool) : Value → Option Value
  | .int .u32 x => if 0 ≤ x ∧ d x.toNat = true then some (.bool true) else none
  | _ => none
theorem vis_at (d : Nat → Bool) (v : Nat) : vis d (.int .u32 (v : Int)) = if d v = true then some (.bool true) else none := by
  unfold vis
  simp only [Int.toNat_natCast, Int.natCast_nonneg, true_and]
theorem vis_put (d : Nat → Bool) (v : Nat) : mapf.put (vis d) (.int .u32 (v : Int)) (.bool true) = vis (upd d v true) := by
  funext x
  by_cases e : x = .int .u32 (v : Int)
  · rw [e, mapf.put_same, vis_at, upd_same, if_pos rfl]
  · rw [mapf.put_ne _ _ e]
    unfold vis
    split
    · rename_i y
      by_cases hy : 0 ≤ y
      · have : y.toNat ≠ v := fun h => e (by rw [← h, Int.toNat_of_nonneg hy])
        rw [upd_ne _ _ this]
      · rw [if_neg (fun h => hy h.1), if_neg (fun h => hy h.1)]
    · rfl

/-- the closure's value: the four variables that it captured -/
def fnV (bv bc bf bo : Nat) : Value := .func (.func 16) #[] #[.pointer (some ⟨bv, 0, none⟩), .pointer (some ⟨bc, 0, none⟩), .pointer (some ⟨bf, 0, none⟩), .pointer (some ⟨bo, 0, none⟩)]
structure Vs (wm W : World) (bv bc bf bo mb cb : Nat) (d : Nat → Bool) (t : Value) (o : List Nat) : Prop where
  kept : Kept wm W
  vmap : Blk W bv 205 [.map (some mb)]
  vctx : Blk W bc 29 [.pointer (some ⟨cb, 0, none⟩)]
  vfun : Blk W bf 206 [fnV bv bc bf bo]
  vord : Blk W bo 27 [t]
  map : ∃ m, mapf.MapF Try.prog 23 W mb m (vis d)
  ord : Wk W wm.heap.size 23 1 (fun x : Nat => [.int .u32 (x : Int)]) t o
  lomb : wm.heap.size ≤ mb
  lobo : wm.heap.size ≤ bo
theorem heap_setBlock (w : World) (b : Nat) (o : Obj) (k : Nat) (h : k ≠ b) : (setBlock w b o).heap[k]? = w.heap[k]? := by
  unfold setBlock
  simp only
  rw [Array.getElem?_setIfInBounds]
  simp [Ne.symm h]
theorem size_setBlock (w : World) (b : Nat) (o : Obj) : (setBlock w b o).heap.size = w.heap.size := by simp [setBlock]
section
variable {wm W W2 : World} {bv bc bf bo mb cb m : Nat} {d : Nat → Bool} {t : Value} {o : List Nat} {f : Value → Option Value}
theorem map_not_blk {g T : Nat} {cs : List Value} (hm : mapf.MapF Try.prog 23 W mb m f) (hb : Blk W g T cs) : g ≠ mb := by
  rintro rfl
  obtain ⟨es, c, h1, _⟩ := hm
  rw [Blk, h1] at hb
  cases hb
theorem map_not_own {base E size n : Nat} {v : Value} {xs : List Value} (hm : mapf.MapF Try.prog 23 W mb m f) (h : W.ownsRow base E size v n xs) : v.ownBlock ≠ some mb := by
  intro he
  rcases h.2 with ⟨e1, _⟩ | ⟨g, cap, cur, e1, _, hh, _⟩
  · rw [e1] at he; simp [Value.ownBlock] at he
  · rw [e1] at he
    have hg : g = mb := by simpa [Value.ownBlock] using he
    obtain ⟨es, c, h1, _⟩ := hm
    rw [hg, h1] at hh
    cases hh
theorem Vs.kept2 (h : Vs wm W bv bc bf bo mb cb d t o) (k : Kept W W2) : Vs wm W2 bv bc bf bo mb cb d t o := by
  obtain ⟨m, hm⟩ := h.map
  exact ⟨h.kept.trans k, h.vmap.kept k, h.vctx.kept k, h.vfun.kept k, h.vord.kept k, ⟨m, hm.kept k⟩, h.ord.kept k, h.lomb, h.lobo⟩
/-- v is marked as visited -/
theorem Vs.put (h : Vs wm W bv bc bf bo mb cb d t o) {v m2 : Nat} {ob : Obj} (hW : W2 = setBlock W mb ob) (hm : mapf.MapF Try.prog 23 W2 mb m2 (mapf.put (vis d) (.int .u32 (v : Int)) (.bool true))) : Vs wm W2 bv bc bf bo mb cb (upd d v true) t o := by
  rw [vis_put] at hm
  obtain ⟨m, h0⟩ := h.map
  have hb : ∀ {g T : Nat} {cs : List Value}, Blk W g T cs → Blk W2 g T cs := fun {g T cs} q => by
    have : W2.heap[g]? = W.heap[g]? := by rw [hW]; exact heap_setBlock _ _ _ _ (map_not_blk h0 q)
    exact this.trans q
  refine ⟨⟨?_, ?_, ?_, ?_, fun k hk => ?_⟩, hb h.vmap, hb h.vctx, hb h.vfun, hb h.vord, ⟨m2, hm⟩, ⟨h.ord.1, own_block h.ord.2 fun k hk => ?_⟩, h.lomb, h.lobo⟩
  · rw [hW]; exact h.kept.os
  · rw [hW]; exact h.kept.tape
  · rw [hW]; exact h.kept.output
  · rw [hW, size_setBlock]; exact h.kept.size
  · rw [hW, heap_setBlock _ _ _ _ (by have := h.lomb; omega)]
    exact h.kept.block k hk
  · rw [hW]
    exact heap_setBlock _ _ _ _ (fun e => map_not_own h0 h.ord.2 (e ▸ hk))
/-- a number is appended to the order and the order stored -/
theorem Vs.append {v : Value} {x : Nat} {ob : Obj} (h : Vs wm W bv bc bf bo mb cb d t o) (hown : W2.ownsRow wm.heap.size 23 1 v (o.length + 1) (o.flatMap (fun x : Nat => [Value.int .u32 (x : Int)]) ++ [.int .u32 (x : Int)])) (hg : (W.alloc ob).grownBy W2 t.ownBlock) (hat : v.ownBlock = t.ownBlock ∨ v.ownBlock = some (W.alloc ob).heap.size) :
    Vs wm (W2.setCell ⟨bo, 0, none⟩ v) bv bc bf bo mb cb d v (o ++ [x]) ∧ W2.cell? ⟨bo, 0, none⟩ = some t ∧ W2.frozen? ⟨bo, 0, none⟩ = false := by
  obtain ⟨h1, h2, h3⟩ := push1 (u := x) (e := fun x : Nat => .int .u32 (x : Int)) h.kept h.ord hown hg hat
  obtain ⟨m, h0⟩ := h.map
  have b1 := h3.blk h.vmap (h.vmap.notOwned h.ord.2 (by decide))
  have b2 := h3.blk h.vctx (h.vctx.notOwned h.ord.2 (by decide))
  have b3 := h3.blk h.vfun (h.vfun.notOwned h.ord.2 (by decide))
  have b4 := h3.blk h.vord (h.vord.notOwned h.ord.2 (by decide))
  have hm2 : mapf.MapF Try.prog 23 W2 mb m (vis d) := h0.of_block (h3.block mb h0.lt (map_not_own h0 h.ord.2))
  refine ⟨⟨h2.setCell (p := ⟨bo, 0, none⟩) h.lobo _, b1.far (p := ⟨bo, 0, none⟩) (b1.apart b4 (by decide)) _, b2.far (p := ⟨bo, 0, none⟩) (b2.apart b4 (by decide)) _, b3.far (p := ⟨bo, 0, none⟩) (b3.apart b4 (by decide)) _, by have := b4.set 0 v; simpa using this, ⟨m, hm2.of_block (Below.heap_setCell _ _ _ _ (Ne.symm (map_not_blk hm2 b4)))⟩, h1.far (p := ⟨bo, 0, none⟩) (b4.notOwned h1.2 (by decide)) _, h.lomb, h.lobo⟩, by rw [b4.cell]; rfl, b4.free 0⟩
end

/-- the targets of the first p parts and of part p's first k imports -/
def pre (F : Ct) (v p k : Nat) : List Nat := ((List.range p).flatMap fun q => tgts (imps F v q)) ++ tgts ((imps F v p).take k)
theorem pre_zero (F : Ct) (v : Nat) : pre F v 0 0 = [] := by simp [pre, tgts]
theorem pre_imp {F : Ct} {v p k : Nat} (hk : k < (imps F v p).length) : pre F v p (k + 1) = pre F v p k ++ (if (imps F v p)[k].1 = true then [(imps F v p)[k].2] else []) := by
  unfold pre
  rw [List.take_succ_eq_append_getElem hk, tgts_append, List.append_assoc]
  congr 2
  cases h : (imps F v p)[k].1 <;> simp [tgts, h]
theorem pre_part (F : Ct) (v p : Nat) : pre F v p (imps F v p).length = pre F v (p + 1) 0 := by
  unfold pre
  rw [List.take_length, List.range_succ, List.flatMap_append]
  simp [tgts]
theorem pre_all (F : Ct) (v : Nat) : pre F v (np F v) 0 = T F v := by simp [pre, T, tgts]
/-- what a run puts out it has marked -/
theorem run_cnt {n : Nat} {F : Ct} (hT : ∀ v, v < n → ∀ t ∈ T F v, t < n) {l : List Nat} {s a : St} (h : Run (T F) (C F) l s a) (hl : ∀ x ∈ l, x < n) : a.o.length + cnt s.d n ≤ s.o.length + cnt a.d n := by
  induction h with
  | nil => omega
  | skip _ _ ih => exact ih (fun x hx => hl x (List.mem_cons_of_mem _ hx))
  | @go v ts s s1 s2 e _ _ ih1 ih2 =>
    have hv := hl v (List.mem_cons_self ..)
    have i1 := ih1 (hT v hv)
    have i2 := ih2 (fun x hx => hl x (List.mem_cons_of_mem _ hx))
    have hc : cnt (s.mark v).d n = cnt s.d n + 1 := cnt_mark hv e
    have hl2 : (C F v).length ≤ 1 := by unfold C; split <;> simp
    have ho : (s1.emit (C F) v).o.length = s1.o.length + (C F v).length := by simp [St.emit]
    have hd : cnt (s1.emit (C F) v).d n = cnt s1.d n := rfl
    have hm : (s.mark v).o.length = s.o.length := rfl
    omega
theorem cnt_mono {d d2 : Nat → Bool} {n : Nat} (h : ∀ x, d x = true → d2 x = true) : cnt d n ≤ cnt d2 n := by
  induction n with
  | zero => exact Nat.le_refl _
  | succ n ih =>
    simp only [cnt]
    by_cases e : d n = true
    · rw [if_pos e, if_pos (h n e)]; omega
    · rw [if_neg e]; omega

theorem One.whole {W : World} {g : Rp} {F : Ct} {i p : Nat} (h : One W g F i) (hp : p < np F i) : ∃ cs : List Value, cs.length = 11 ∧ W.rangeAt g.P (p * 11) cs ∧ cs.toArray.all (·.oneCell') = true ∧ cs[2]? = some (.slice (some ⟨g.D p, 0, none⟩) (plen F i p) (plen F i p)) := by
  obtain ⟨cs, hb, hl, ho, hc⟩ := h.parts
  have hr : p * 11 + 11 ≤ np F i * 11 := by have := Nat.mul_le_mul_right 11 (show p + 1 ≤ np F i by omega); omega
  refine ⟨(cs.drop (p * 11)).take 11, by rw [List.length_take, List.length_drop]; omega, hb.range _ _, all_oneCell_toArray (fun u hu => ho u (List.drop_subset _ _ (List.take_subset _ _ hu))), ?_⟩
  rw [List.getElem?_take, if_pos (by omega), List.getElem?_drop]
  exact hc p hp
/-- import k of part p: its number, the record it names -/
theorem One.rec_ {W : World} {g : Rp} {F : Ct} {i p k : Nat} (h : One W g F i) (hp : p < np F i) (hk : k < (imps F i p).length) : ∃ m b c : Nat, W.cell? ⟨g.D p, k, none⟩ = some (.int .u32 (m : Int)) ∧ m < g.R.length ∧ g.t = .slice (some ⟨b, 0, none⟩) g.R.length c ∧ W.cell? ⟨b, m * 15 + 10, none⟩ = some (.int .u32 (ixv (tgt (imps F i p)[k]))) := by
  obtain ⟨cs, hb, hl, hc⟩ := h.idx p hp
  obtain ⟨m, h1, h2⟩ := hc k hk hk
  have hm := (List.getElem?_eq_some_iff.1 h2).1
  obtain ⟨⟨a, c, et⟩, hown⟩ := h.recs
  rcases hown.2 with ⟨_, e⟩ | ⟨b, cap, cur, ev, _, hh, hn, hcm, hs, ht⟩
  · omega
  · refine ⟨m, b, cap, by rw [hb.cell]; exact h1, hm, ev, ?_⟩
    rw [cell_of_row W b _ cur 142 (0, 0) hh, ← Array.getElem?_toList]
    have h3 := congrArg (fun l => l[m * 15 + 10]?) ht
    have hle : (m + 1) * 15 ≤ g.R.length * 15 := Nat.mul_le_mul_right _ hm
    simp only [List.getElem?_take] at h3
    rw [if_pos (by omega), rcs_at h2] at h3
    exact h3
end Go.Proofs.Ytkogmgonceneeaa.css
