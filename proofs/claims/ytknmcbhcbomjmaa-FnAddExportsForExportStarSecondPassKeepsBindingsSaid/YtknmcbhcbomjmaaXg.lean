/-
  buildExportReprs over this seat's program: what it lays in memory.
  Conditions: the files are readable and fit.
-/
import Derived.Test.YtknmcbhcbomjmaaWb
import Derived.Test.YtknmcbhcbomjmaaPd
import Derived.Test.YtknmcbhcbomjmaaSw
import Derived.BigRegion
import Derived.Carry
import Derived.LoopTactic
import Derived.Outline
import Derived.IntWalk
import Derived.Deep.QuietTactic
import Derived.BigQuiet
import Derived.Deep.RegionHeld3
import Derived.Deep.RegionWith
import Derived.Deep.CutBlock
import Derived.Deep.CutRange
import Derived.Deep.DeepCutAuto
import Derived.OwnWalk
import Derived.WalkMore
import Derived.Deep.LoopGhost
namespace Go.Proofs.Ytknmcbhcbomjmaa.xs
open Go.ChangeShapes Go.WideShapes Go.ChangeAt Go.RowKit
open kit
open Go.Maps (Keyed)
open Go.ChangeMaps (setBlock)

theorem kept_setBlock {w W : World} {b : Nat} (h : Kept w W) (hb : w.heap.size ≤ b) (ob : Obj) : Kept w (setBlock W b ob) := by
  refine ⟨h.os, h.tape, h.output, by simpa [setBlock] using h.size, fun k hk => ?_⟩
  exact (sb_other W b ob (by omega)).trans (h.block k hk)
theorem MapV_ne {P : Program} {k t : TypeId} {w : World} {b b2 n : Nat} {cs : List Value} {f : Value → Option Value} (h : Blk w b t cs) (m : mapv.MapV P k w b2 n f) : b ≠ b2 := by
  intro e
  subst e
  obtain ⟨D, ⟨es, c, q, _⟩, _⟩ := m
  rw [Blk, q] at h
  cases h

/-- one file's JSRepr in block Jb; its records, its indices, its names, its bindings -/
structure One (W : World) (Jb Rb Xb Nb Ib i : Nat) (f : EF) : Prop where
  js : ∃ cs, Blk W Jb 95 cs ∧ cs.length = 64 ∧ cs[1]? = some (.map (some Ib)) ∧ cs[35]? = some (.slice (some ⟨Rb, 0, none⟩) f.sr.length f.sr.length) ∧ cs[37]? = some (.map (some Nb)) ∧ cs[38]? = some (.slice (some ⟨Xb, 0, none⟩) f.sr.length f.sr.length) ∧ cs[62]? = some (.int .u8 f.ek)
  recs : ∃ cs, Blk W Rb 112 cs ∧ ∀ k, k < f.sr.length → cs[k * 15 + 10]? = some (.int .u32 (flag (tg (f.sr.getD k 0))))
  idx : ∃ cs, Blk W Xb 23 cs ∧ ∀ k, k < f.sr.length → cs[k]? = some (.int .u32 (k : Int))
  ne : ∃ sz, mapv.MapV Try.prog 9 W Nb sz (neV i (lastAt f.ex f.ex.length))
  ib : mapf.MapF Try.prog 44 W Ib 0 (fun _ => none)
section
variable {W W2 : World} {Jb Rb Xb Nb Ib i : Nat} {f : EF}
theorem One.of_blocks (h : One W Jb Rb Xb Nb Ib i f) (hb : ∀ b, (b = Jb ∨ b = Rb ∨ b = Xb ∨ b = Nb ∨ b = Ib) → W2.heap[b]? = W.heap[b]?) : One W2 Jb Rb Xb Nb Ib i f := by
  obtain ⟨⟨c1, h1, r1⟩, ⟨c2, h2, r2⟩, ⟨c3, h3, r3⟩, ⟨sz, h4⟩, h5⟩ := h
  exact ⟨⟨c1, (hb Jb (.inl rfl)).trans h1, r1⟩, ⟨c2, (hb Rb (.inr (.inl rfl))).trans h2, r2⟩, ⟨c3, (hb Xb (.inr (.inr (.inl rfl)))).trans h3, r3⟩, ⟨sz, h4.of_block (hb Nb (.inr (.inr (.inr (.inl rfl)))))⟩, h5.of_block (hb Ib (.inr (.inr (.inr (.inr rfl)))))⟩
theorem One.lt (h : One W Jb Rb Xb Nb Ib i f) : Jb < W.heap.size ∧ Rb < W.heap.size ∧ Xb < W.heap.size ∧ Nb < W.heap.size ∧ Ib < W.heap.size := by
  obtain ⟨⟨c1, h1, r1⟩, ⟨c2, h2, r2⟩, ⟨c3, h3, r3⟩, ⟨sz, h4⟩, h5⟩ := h
  exact ⟨h1.lt, h2.lt, h3.lt, h4.lt, h5.lt⟩
theorem One.kept (h : One W Jb Rb Xb Nb Ib i f) (k : Kept W W2) : One W2 Jb Rb Xb Nb Ib i f := h.of_blocks fun b hb => k.block b (by
  have := h.lt
  rcases hb with e | e | e | e | e <;> omega)
theorem One.apart (h : One W Jb Rb Xb Nb Ib i f) {b t : Nat} {cs : List Value} (hb : Blk W b t cs) (h1 : 95 ≠ t) (h2 : 112 ≠ t) (h3 : 23 ≠ t) : ∀ x, (x = Jb ∨ x = Rb ∨ x = Xb ∨ x = Nb ∨ x = Ib) → x ≠ b := by
  obtain ⟨⟨c1, q1, r1⟩, ⟨c2, q2, r2⟩, ⟨c3, q3, r3⟩, ⟨sz, q4⟩, q5⟩ := h
  rintro x (rfl | rfl | rfl | rfl | rfl)
  · exact q1.apart hb h1
  · exact q2.apart hb h2
  · exact q3.apart hb h3
  · exact fun e => MapV_ne hb q4 e.symm
  · exact fun e => blk_ne hb q5 e.symm
theorem One.far (h : One W Jb Rb Xb Nb Ib i f) {b t : Nat} {cs : List Value} (hb : Blk W b t cs) (h1 : 95 ≠ t) (h2 : 112 ≠ t) (h3 : 23 ≠ t) (o : Nat) (u : Value) : One (W.setCell ⟨b, o, none⟩ u) Jb Rb Xb Nb Ib i f :=
  h.of_blocks fun x hx => Below.heap_setCell W _ u x (fun e => h.apart hb h1 h2 h3 x hx e)
theorem fars_block {b : Nat} : ∀ (vs : List Value) (o : Nat) (W : World) (x : Nat), x ≠ b → (W.setCells b o vs).heap[x]? = W.heap[x]? := by
  intro vs
  induction vs with
  | nil => intro o W x _; rfl
  | cons v r ih => intro o W x hx; exact (ih (o + 1) _ x hx).trans (Below.heap_setCell W _ v x (fun e => hx e))
theorem One.fars (h : One W Jb Rb Xb Nb Ib i f) {b t : Nat} {cs : List Value} (hb : Blk W b t cs) (h1 : 95 ≠ t) (h2 : 112 ≠ t) (h3 : 23 ≠ t) (o : Nat) (vs : List Value) : One (W.setCells b o vs) Jb Rb Xb Nb Ib i f :=
  h.of_blocks fun x hx => fars_block vs o W x (h.apart hb h1 h2 h3 x hx)
end

/-- where the files' blocks lie -/
structure Pl where
  J : Nat → Nat
  R : Nat → Nat
  X : Nat → Nat
  N : Nat → Nat
  I : Nat → Nat
def updN (f : Nat → Nat) (i v : Nat) : Nat → Nat := fun x => if x = i then v else f x
theorem updN_same (f : Nat → Nat) (i v : Nat) : updN f i v i = v := if_pos rfl
theorem updN_ne (f : Nat → Nat) {i x : Nat} (v : Nat) (h : x ≠ i) : updN f i v x = f x := if_neg h
def Pl.put (q : Pl) (i Jb Rb Xb Nb Ib : Nat) : Pl := ⟨updN q.J i Jb, updN q.R i Rb, updN q.X i Xb, updN q.N i Nb, updN q.I i Ib⟩
structure Bd (w0 wr : World) (n i : Nat) (q : Pl) (fs : List EF) : Prop where
  kept : Kept w0 wr
  rp : ∃ cs, Blk wr w0.heap.size 96 cs ∧ cs.length = n ∧ ∀ j, j < i → cs[j]? = some (.pointer (some ⟨q.J j, 0, none⟩))
  lf : ∃ cs, Blk wr (w0.heap.size + 1) 134 cs ∧ cs.length = n * 24 ∧ ∀ j, j < i → cs[j * 24 + 2]? = some (.iface 96 (.pointer (some ⟨q.J j, 0, none⟩)))
  one : ∀ j, j < i → One wr (q.J j) (q.R j) (q.X j) (q.N j) (q.I j) j (fs.getD j default)
  low : ∀ j, j < i → w0.heap.size ≤ q.J j ∧ w0.heap.size ≤ q.R j ∧ w0.heap.size ≤ q.X j ∧ w0.heap.size ≤ q.N j ∧ q.N j < q.I j ∧ q.I j < wr.heap.size
  ord : ∀ j k, j < k → k < i → q.I j < q.N k
theorem Bd.step {w0 wr W1 W2 : World} {n i Jb Rb Xb Nb Ib : Nat} {q : Pl} {fs : List EF} {A : Array Value} (h : Bd w0 wr n i q fs) (k1 : Kept wr W1) (hO : One W1 Jb Rb Xb Nb Ib i (fs.getD i default)) (hB : wr.heap.size ≤ Jb ∧ wr.heap.size ≤ Rb ∧ wr.heap.size ≤ Xb ∧ wr.heap.size ≤ Nb ∧ Nb < Ib) (hi : i < n)
    (k2 : Kept (W1.setCell ⟨w0.heap.size, i, none⟩ (.pointer (some ⟨Jb, 0, none⟩))) W2) (hA : FileV Jb A) :
    Bd w0 (W2.setCells (w0.heap.size + 1) (i * 24) A.toList) n (i + 1) (q.put i Jb Rb Xb Nb Ib) fs := by
  obtain ⟨c1, p1, l1, e1⟩ := h.rp
  obtain ⟨c2, p2, l2, e2⟩ := h.lf
  have q1 := p1.kept k1
  have q2 := p2.kept k1
  have s1 := (q1.set i (.pointer (some ⟨Jb, 0, none⟩))).kept k2
  have s2 := (q2.far (p := ⟨w0.heap.size, i, none⟩) (by show w0.heap.size + 1 ≠ w0.heap.size; omega) (.pointer (some ⟨Jb, 0, none⟩))).kept k2
  have hA24 : A.toList.length = 24 := by simpa using hA.1
  have hr : i * 24 + 24 ≤ n * 24 := by have := Nat.mul_le_mul_right 24 (show i + 1 ≤ n by omega); omega
  obtain ⟨c3, t2, l3, a3, b3⟩ := Blk.setCells A.toList (i * 24) W2 _ s2 (by rw [hA24, l2]; exact hr)
  have t1 := Blk.setCellsFar (b := w0.heap.size + 1) (by omega) A.toList (i * 24) W2 _ s1
  have hOne : ∀ {jb rb xb nb ib m : Nat} {f : EF}, One W1 jb rb xb nb ib m f → One (W2.setCells (w0.heap.size + 1) (i * 24) A.toList) jb rb xb nb ib m f := fun g =>
    ((g.far q1 (by decide) (by decide) (by decide) i _).kept k2).fars s2 (by decide) (by decide) (by decide) _ _
  have hsz : ∀ (vs : List Value) (o : Nat) (W : World), (W.setCells (w0.heap.size + 1) o vs).heap.size = W.heap.size := by
    intro vs
    induction vs with
    | nil => intro o W; rfl
    | cons v r ih => intro o W; show ((W.setCell _ v).setCells _ (o + 1) r).heap.size = _; rw [ih]; simp [World.setCell]
  have hlt := hO.lt
  have hs2 := k2.size
  have hs2' : (W1.setCell ⟨w0.heap.size, i, none⟩ (.pointer (some ⟨Jb, 0, none⟩))).heap.size = W1.heap.size := by simp [World.setCell]
  have hs0 := h.kept.size
  have hs1 := k1.size
  refine ⟨Kept.setCells _ _ _ (((h.kept.trans k1).setCell (p := ⟨w0.heap.size, i, none⟩) (Nat.le_refl _) _).trans k2) (by omega), ⟨_, t1, by rw [List.length_set]; exact l1, fun j hj => ?_⟩, ⟨c3, t2, l3.trans l2, fun j hj => ?_⟩, fun j hj => ?_, fun j hj => ?_, fun j k hjk hk => ?_⟩
  · simp only [Pl.put]
    by_cases ej : j = i
    · rw [ej, updN_same, List.getElem?_set_self (by omega)]
    · rw [updN_ne _ _ ej, List.getElem?_set_ne (by omega), e1 j (by omega)]
  · simp only [Pl.put]
    by_cases ej : j = i
    · rw [ej, updN_same, b3 2 (by omega)]
      simpa using hA.2.1
    · rw [updN_ne _ _ ej, a3 _ (by omega), e2 j (by omega)]
  · simp only [Pl.put]
    by_cases ej : j = i
    · subst ej
      simp only [updN_same]
      exact hOne hO
    · simp only [updN_ne _ _ ej]
      exact hOne ((h.one j (by omega)).kept k1)
  · simp only [Pl.put]
    rw [hsz]
    by_cases ej : j = i
    · subst ej
      simp only [updN_same]
      omega
    · simp only [updN_ne _ _ ej]
      have := h.low j (by omega)
      omega
  · simp only [Pl.put]
    have ej : j ≠ i := by omega
    simp only [updN_ne _ _ ej]
    by_cases ek : k = i
    · subst ek
      rw [updN_same]
      have := h.low j (by omega)
      omega
    · rw [updN_ne _ _ ek]
      exact h.ord j k hjk (by omega)

/-- a fresh JSRepr with its kind and its names, j of them laid -/
def Js1 (wo W : World) (i : Nat) (f : EF) (j : Nat) : Prop :=
  Kept wo W ∧ (∃ cs, Blk W wo.heap.size 95 cs ∧ cs.length = 64 ∧ cs[62]? = some (.int .u8 f.ek) ∧ cs[37]? = some (.map (some (wo.heap.size + 1)))) ∧ ∃ sz, sz ≤ j ∧ mapv.MapV Try.prog 9 W (wo.heap.size + 1) sz (neV i (lastAt f.ex j))
/-- the records and the indices of one file, j of them laid -/
structure Rc (w1 wr : World) (sr : List Int) (j : Nat) : Prop where
  kept : Kept w1 wr
  blk : ∃ cs, Blk wr w1.heap.size 112 cs ∧ cs.length = sr.length * 15 ∧ ∀ k, k < sr.length → cs[k * 15 + 10]? = some (.int .u32 (if k < j then flag (tg (sr.getD k 0)) else 0))
  idx : ∃ cs, Blk wr (w1.heap.size + 1) 23 cs ∧ cs.length = sr.length ∧ ∀ k, k < j → cs[k]? = some (.int .u32 (k : Int))
/-- .. the j-th index laid, not yet its record -/
def Rx (w1 wr : World) (sr : List Int) (j : Nat) : Prop := Kept w1 wr ∧ (∃ cs, Blk wr w1.heap.size 112 cs ∧ cs.length = sr.length * 15 ∧ ∀ k, k < sr.length → cs[k * 15 + 10]? = some (.int .u32 (if k < j then flag (tg (sr.getD k 0)) else 0))) ∧
  ∃ cs, Blk wr (w1.heap.size + 1) 23 cs ∧ cs.length = sr.length ∧ ∀ k, k < j + 1 → cs[k]? = some (.int .u32 (k : Int))
theorem Rc.index {w1 wr : World} {sr : List Int} {j : Nat} (h : Rc w1 wr sr j) (hj : j < sr.length) : Rx w1 (wr.setCell ⟨w1.heap.size + 1, j, none⟩ (.int .u32 (j : Int))) sr j := by
  obtain ⟨cs, hb, hl, h2⟩ := h.blk
  obtain ⟨cx, hx, lx, h3⟩ := h.idx
  refine ⟨h.kept.setCell (p := ⟨w1.heap.size + 1, j, none⟩) (by show w1.heap.size ≤ w1.heap.size + 1; omega) _, ⟨cs, hb.far (p := ⟨w1.heap.size + 1, j, none⟩) (by show w1.heap.size ≠ w1.heap.size + 1; omega) _, hl, h2⟩, _, hx.set j _, by rw [List.length_set]; exact lx, fun k hk => ?_⟩
  by_cases e : k = j
  · rw [e, List.getElem?_set_self (by omega)]
  · rw [List.getElem?_set_ne (by omega), h3 k (by omega)]
theorem Rx.yes {w1 wr W : World} {sr : List Int} {j : Nat} (h : Rx w1 wr sr j) (k : Kept wr W) (hj : j < sr.length) (hx : 0 ≤ sr.getD j 0) : Rc w1 (W.setCell ⟨w1.heap.size, j * 15 + 10, none⟩ (.int .u32 (4294967295 - sr.getD j 0))) sr (j + 1) := by
  obtain ⟨h0, ⟨cs, hb, hl, h2⟩, cx, hx2, lx, h3⟩ := h
  refine ⟨(h0.trans k).setCell (p := ⟨w1.heap.size, j * 15 + 10, none⟩) (Nat.le_refl _) _, ⟨_, (hb.kept k).set _ _, by rw [List.length_set]; exact hl, fun q hq => ?_⟩, cx, (hx2.kept k).far (p := ⟨w1.heap.size, j * 15 + 10, none⟩) (by show w1.heap.size + 1 ≠ w1.heap.size; omega) _, lx, h3⟩
  by_cases e : q = j
  · subst e
    rw [List.getElem?_set_self (by rw [hl]; omega), if_pos (by omega)]
    unfold tg flag
    rw [if_pos hx]
    simp only
    rw [Int.toNat_of_nonneg hx]
  · rw [List.getElem?_set_ne (by omega), h2 q hq]
    by_cases c : q < j
    · rw [if_pos c, if_pos (by omega)]
    · rw [if_neg c, if_neg (by omega)]
theorem Rx.no {w1 wr : World} {sr : List Int} {j : Nat} (h : Rx w1 wr sr j) (hx : ¬ 0 ≤ sr.getD j 0) : Rc w1 wr sr (j + 1) := by
  obtain ⟨h0, ⟨cs, hb, hl, h2⟩, r⟩ := h
  refine ⟨h0, ⟨cs, hb, hl, fun q hq => ?_⟩, r⟩
  rw [h2 q hq]
  by_cases e : q = j
  · subst e
    rw [if_neg (by omega), if_pos (by omega)]
    unfold tg flag
    rw [if_neg hx]
  · by_cases c : q < j
    · rw [if_pos c, if_pos (by omega)]
    · rw [if_neg c, if_neg (by omega)]
theorem Rx.has {w1 wr W : World} {sr : List Int} {j : Nat} (h : Rx w1 wr sr j) (k : Kept wr W) (hj : j < sr.length) : ∃ v, W.cell? ⟨w1.heap.size, j * 15 + 10, none⟩ = some v ∧ W.frozen? ⟨w1.heap.size, j * 15 + 10, none⟩ = false := by
  obtain ⟨h0, ⟨cs, hb, hl, _⟩, _⟩ := h
  exact (hb.kept k).has (by rw [hl]; omega)
/-- one file done -/
theorem one_done {wo W5 W6 : World} {i : Nat} {f : EF} (h : Js1 wo W5 i f f.ex.length) (r : Rc W5 W6 f.sr f.sr.length) :
    Kept wo ((((W6.setCell ⟨wo.heap.size, 35, none⟩ (.slice (some ⟨W5.heap.size, 0, none⟩) f.sr.length f.sr.length)).setCell ⟨wo.heap.size, 38, none⟩ (.slice (some ⟨W5.heap.size + 1, 0, none⟩) f.sr.length f.sr.length)).alloc (.map #[] 0)).setCell ⟨wo.heap.size, 1, none⟩ (.map (some W6.heap.size))) ∧
    One ((((W6.setCell ⟨wo.heap.size, 35, none⟩ (.slice (some ⟨W5.heap.size, 0, none⟩) f.sr.length f.sr.length)).setCell ⟨wo.heap.size, 38, none⟩ (.slice (some ⟨W5.heap.size + 1, 0, none⟩) f.sr.length f.sr.length)).alloc (.map #[] 0)).setCell ⟨wo.heap.size, 1, none⟩ (.map (some W6.heap.size)))
      wo.heap.size W5.heap.size (W5.heap.size + 1) (wo.heap.size + 1) W6.heap.size i f := by
  obtain ⟨k5, ⟨cs, hb, l64, e62, e37⟩, sz, _, hm⟩ := h
  obtain ⟨rc, rb, rl, r1⟩ := r.blk
  obtain ⟨xc, xb, xl, x1⟩ := r.idx
  have k6 := k5.trans r.kept
  have hlt := hb.lt
  have hml := hm.lt
  have hb6 := hb.kept r.kept
  have hm6 := hm.kept r.kept
  have s5 := k5.size
  have s6 := r.kept.size
  have a1 : W5.heap.size ≠ wo.heap.size := by omega
  have a2 : W5.heap.size + 1 ≠ wo.heap.size := by omega
  have a3 : wo.heap.size + 1 ≠ wo.heap.size := by omega
  refine ⟨((((k6.setCell (p := ⟨wo.heap.size, 35, none⟩) (Nat.le_refl _) _).setCell (p := ⟨wo.heap.size, 38, none⟩) (Nat.le_refl _) _).alloc _).setCell (p := ⟨wo.heap.size, 1, none⟩) (Nat.le_refl _) _), ⟨_, (((hb6.set 35 _).set 38 _).alloc _).set 1 _, by simp [l64], ?_, ?_, ?_, ?_, ?_⟩,
    ⟨rc, (((rb.far (p := ⟨wo.heap.size, 35, none⟩) a1 _).far (p := ⟨wo.heap.size, 38, none⟩) a1 _).alloc _).far (p := ⟨wo.heap.size, 1, none⟩) a1 _, fun k hk => by rw [r1 k hk, if_pos hk]⟩,
    ⟨xc, (((xb.far (p := ⟨wo.heap.size, 35, none⟩) a2 _).far (p := ⟨wo.heap.size, 38, none⟩) a2 _).alloc _).far (p := ⟨wo.heap.size, 1, none⟩) a2 _, x1⟩,
    ⟨sz, ((((hm6.setCell (a := ⟨wo.heap.size, 35, none⟩) a3 _).setCell (a := ⟨wo.heap.size, 38, none⟩) a3 _).kept ((Kept.refl _).alloc _)).setCell (a := ⟨wo.heap.size, 1, none⟩) a3 _)⟩, ?_⟩
  · rw [List.getElem?_set_self (by simp [l64])]
  · rw [List.getElem?_set_ne (by omega), List.getElem?_set_ne (by omega), List.getElem?_set_self (by omega)]
  · rw [List.getElem?_set_ne (by omega), List.getElem?_set_ne (by omega), List.getElem?_set_ne (by omega)]; exact e37
  · rw [List.getElem?_set_ne (by omega), List.getElem?_set_self (by simp [l64])]
  · rw [List.getElem?_set_ne (by omega), List.getElem?_set_ne (by omega), List.getElem?_set_ne (by omega)]; exact e62
  · have := mapf.MapF.made Try.prog 44 ((W6.setCell ⟨wo.heap.size, 35, none⟩ (.slice (some ⟨W5.heap.size, 0, none⟩) f.sr.length f.sr.length)).setCell ⟨wo.heap.size, 38, none⟩ (.slice (some ⟨W5.heap.size + 1, 0, none⟩) f.sr.length f.sr.length))
    rw [show ((W6.setCell ⟨wo.heap.size, 35, none⟩ (.slice (some ⟨W5.heap.size, 0, none⟩) f.sr.length f.sr.length)).setCell ⟨wo.heap.size, 38, none⟩ (.slice (some ⟨W5.heap.size + 1, 0, none⟩) f.sr.length f.sr.length)).heap.size = W6.heap.size by simp [World.setCell]] at this
    refine this.of_block (Below.heap_setCell _ _ _ _ ?_)
    show W6.heap.size ≠ wo.heap.size
    omega

/-- what buildExportReprs hands back -/
def Built (w : World) (n : Nat) (fs : List EF) (e : Ending) (w' : World) : Prop :=
  e = .returned (.tuple #[.slice (some ⟨w.heap.size, 0, none⟩) n n, .slice (some ⟨w.heap.size + 1, 0, none⟩) n n]) ∧ ∃ q, Bd w w' n n q fs
def B6 (w : World) (n : Nat) (fs : List EF) (t6 : Value) (wr : World) : Prop := ∃ (i : Nat) (q : Pl), i ≤ n ∧ t6 = .int .i64 (i : Int) ∧ Bd w wr n i q fs
def B8 (wo : World) (i : Nat) (f : EF) (t8 : Value) (wr : World) : Prop := ∃ j : Nat, j ≤ f.ex.length ∧ t8 = .int .i64 (j : Int) ∧ Js1 wo wr i f j
def B12 (w1 : World) (sr : List Int) (t12 : Value) (wr : World) : Prop := ∃ j : Nat, j ≤ sr.length ∧ t12 = .int .i64 (j : Int) ∧ Rc w1 wr sr j
/-- a name laid -/
theorem Js1.lay {wo wr W : World} {i j : Nat} {f : EF} (h : Js1 wo wr i f j) (k : Kept wr W) (hj : j < 1000000) (hs : (f.ex.getD j ByteArray.empty).size ≤ maxLen) :
    ∃ ob, (Instr.mapUpdate 86 (.map (some (wo.heap.size + 1))) (.string (f.ex.getD j ByteArray.empty)) (.agg #[.int .u32 (i : Int), .int .u32 (j : Int), .int .i32 0])).run Try.prog W = .ok () (setBlock W (wo.heap.size + 1) ob) ∧ Js1 wo (setBlock W (wo.heap.size + 1) ob) i f (j + 1) := by
  obtain ⟨k0, ⟨cs, hb, r⟩, sz, hsz, hm⟩ := h
  obtain ⟨ob, h1, h2⟩ := (hm.kept k).store K9 Try.underlying86 (by unfold maxLen; omega) (WideMaps.keyOf_string_mk Try.underlying9 hs) (.agg #[.int .u32 (i : Int), .int .u32 (j : Int), .int .i32 0])
  rw [lastAt_put] at h2
  refine ⟨ob, h1, kept_setBlock (k0.trans k) (by omega) ob, ⟨cs, (sb_other W _ ob (by omega)).trans (hb.kept k), r⟩, _, ?_, h2⟩
  split <;> omega

set_option maxRecDepth 100000 in
set_option maxHeartbeats 16000000 in
theorem build (w : World) (a : Option Addr) (n c : Nat) (fs : List EF) (h : Fs w a n fs) (hf : Fit n fs) :
    Calls Try.prog 7 #[.slice a n c] w (Built w n fs) := by
  have hn := hf.top
  have hmm : ∀ W : World, (Instr.makeMap 86 none).run Try.prog W = .ok (.map (some W.heap.size)) (W.alloc (.map #[] 0)) := fun _ => rfl
  have hmm2 : ∀ W : World, (Instr.makeMap 56 none).run Try.prog W = .ok (.map (some W.heap.size)) (W.alloc (.map #[] 0)) := fun _ => rfl
  obtain ⟨C1, l1, g1, m1⟩ := makeN (T := 26) (E := 96) (size := 1) (bytes := 8) Try.underlying26 (by kernel_rfl) n (by omega) (by omega)
  obtain ⟨C2, l2, g2, m2⟩ := makeN (T := 27) (E := 134) (size := 24) (bytes := 280) Try.underlying27 (by kernel_rfl) n (by omega) (by omega)
  obtain ⟨CS, hCS, lS⟩ := built_of (t := 95) (n := 64) (by kernel_rfl)
  have HCS := Lib.hid hCS
  have LS := Lib.hid lS
  have HF := Lib.hid h
  have HT := Lib.hid hf
  have L1 := Lib.hid l1
  have L2 := Lib.hid l2
  clear h hf hCS lS l1 l2 g1 g2
  go_enter Try.func7, Try.ntmps7
  go_wp2_with fail
  have HB0 : Hid (B6 w n fs (.int .i64 0) ((w.alloc (.cells C1.toArray 96)).alloc (.cells C2.toArray 134))) := Lib.hid ⟨0, ⟨fun _ => 0, fun _ => 0, fun _ => 0, fun _ => 0, fun _ => 0⟩, Nat.zero_le _, rfl, ((Kept.refl w).alloc _).alloc _,
    ⟨C1, (Blk.new w 96 C1).alloc _, by simpa using L1.out, fun j hj => absurd hj (by omega)⟩,
    ⟨C2, by have := Blk.new (w.alloc (.cells C1.toArray 96)) 134 C2; simpa using this, L2.out, fun j hj => absurd hj (by omega)⟩, fun j hj => absurd hj (by omega), fun j hj => absurd hj (by omega), fun j k _ hj => absurd hj (by omega)⟩
  clear m1 m2
  generalize (w.alloc (.cells C1.toArray 96)).alloc (.cells C2.toArray 134) = wa at *
  go_loopw [6] (fun t6 W => B6 w n fs t6 W) (fun t6 _ => n - (intOf t6).toNat)
  case atStart => exact HB0.out
  case round =>
    obtain ⟨i, q, hi, rfl, hB⟩ := hrel
    obtain ⟨wo, rfl⟩ : ∃ wo : World, wo = wr := ⟨_, rfl⟩
    have HB := Lib.hid hB
    clear hB HB0
    by_cases hlt : i < n
    · obtain ⟨b, off, rfl, hbl, c0, c1, c2, hr1, hr2⟩ := HF.out.at_ hlt
      have d0 := HB.out.kept.cell c0
      have d1 := HB.out.kept.cell c1
      have d2 := HB.out.kept.cell c2
      have HR1 := Lib.hid (hr1.kept HB.out.kept)
      have HR2 := Lib.hid (hr2.kept HB.out.kept)
      have i0 : (i : Int) < (n : Int) := by omega
      clear c0 c1 c2 hr1 hr2
      have HN1 : Hid ((fs.getD i default).sr.length ≤ 262144) := Lib.hid (HT.out.len i hlt)
      have HN2 : Hid ((fs.getD i default).ex.length ≤ 4096) := Lib.hid (HT.out.ex hlt)
      have HLO : Hid (∀ j, j < (fs.getD i default).sr.length → (fs.getD i default).sr.getD j 0 < (n : Int)) := Lib.hid (HT.out.low i hlt)
      have HSS : Hid (∀ x ∈ (fs.getD i default).ex, x.size ≤ maxLen) := Lib.hid (HF.out.2.2 _ (HF.out.mem hlt)).2.1
      generalize hfi : fs.getD i default = f at *
      have HFI := Lib.hid hfi
      clear hfi
      obtain ⟨ek, ex, sr, ia, ic, ia2, ic2⟩ := f
      simp only at d0 d1 d2
      have HR1 : Hid (Row wo ia ex.length ic (ex.map Value.string)) := HR1
      have HR2 : Hid (Row wo ia2 sr.length ic2 (sr.map (Value.int .i32))) := HR2
      have HN1 : Hid (sr.length ≤ 262144) := HN1
      have HN2 : Hid (ex.length ≤ 4096) := HN2
      have HLO : Hid (∀ j, j < sr.length → sr.getD j 0 < (n : Int)) := HLO
      have HSS : Hid (∀ x ∈ ex, x.size ≤ maxLen) := HSS
      have nq : b ≠ wo.heap.size := by have := HB.out.kept.size; omega
      go_upto_region 7 with (with_reducible refine wp_build0 rfl 95 rfl CS HCS.out ?_)
      have b1 : Blk (wo.alloc (.cells CS 95)) wo.heap.size 95 CS.toList := by have := Blk.new wo 95 CS.toList; simpa using this
      have K1 : Hid (Kept wo (wo.alloc (.cells CS 95))) := Lib.hid ((Kept.refl wo).alloc _)
      have SZ1 : Hid ((wo.alloc (.cells CS 95)).heap.size = wo.heap.size + 1) := Lib.hid (by simp)
      have x0 := K1.out.cell d0
      have x1 := K1.out.cell d1
      have x2 := K1.out.cell d2
      generalize wo.alloc (.cells CS 95) = W1 at *
      have s64 : CS.toList.length = 64 := by simpa using LS.out
      obtain ⟨v1, z1, y1⟩ := b1.has (i := 62) (by omega)
      obtain ⟨v2, z2, y2⟩ := b1.has (i := 37) (by omega)
      have B1 := Lib.hid b1
      have S64 := Lib.hid s64
      clear b1 s64 d0
      go_upto_region 8 with fail
      have HJ0 : Hid (Kept wo (W1.setCell ⟨wo.heap.size, 62, none⟩ (.int .u8 ek)) ∧ ∃ cs, Blk (W1.setCell ⟨wo.heap.size, 62, none⟩ (.int .u8 ek)) wo.heap.size 95 cs ∧ cs.length = 64 ∧ cs[62]? = some (.int .u8 ek)) := Lib.hid
        ⟨K1.out.setCell (p := ⟨wo.heap.size, 62, none⟩) (Nat.le_refl _) _, _, B1.out.set 62 _, by simp [S64.out], by rw [List.getElem?_set_self (by simp [S64.out])]⟩
      have SZ2 : Hid ((W1.setCell ⟨wo.heap.size, 62, none⟩ (.int .u8 ek)).heap.size = wo.heap.size + 1) := Lib.hid (by rw [← SZ1.out]; simp [World.setCell])
      have x1 := HJ0.out.1.cell d1
      have x2 := HJ0.out.1.cell d2
      clear B1 S64 K1 x0 y1 y2 z1 z2 SZ1
      generalize W1.setCell ⟨wo.heap.size, 62, none⟩ (.int .u8 ek) = W2 at *
      obtain ⟨KJ0, cs0, hb0, hl0, he0⟩ := HJ0.out
      obtain ⟨v3, z3, y3⟩ := (hb0.kept ((Kept.refl _).alloc (.map #[] 0))).has (i := 37) (by omega)
      have HB2 := Lib.hid (And.intro hb0 (And.intro hl0 he0))
      have KJ := Lib.hid KJ0
      clear hb0 hl0 he0 KJ0 HJ0
      go_upto_region 9 with fail
      have HJ1 : Hid (Js1 wo ((W2.alloc (.map #[] 0)).setCell ⟨wo.heap.size, 37, none⟩ (.map (some W2.heap.size))) i ⟨ek, ex, sr, ia, ic, ia2, ic2⟩ 0) := Lib.hid (by
        refine ⟨(KJ.out.alloc _).setCell (p := ⟨wo.heap.size, 37, none⟩) (Nat.le_refl _) _, ⟨_, (HB2.out.1.alloc _).set 37 _, by rw [List.length_set]; exact HB2.out.2.1, ?_, ?_⟩, 0, Nat.le_refl _, ?_⟩
        · rw [List.getElem?_set_ne (by omega)]; exact HB2.out.2.2
        · rw [List.getElem?_set_self (by have := HB2.out.2.1; omega), SZ2.out]
        · rw [neV_zero, ← SZ2.out]
          exact (mapv.MapV.made Try.prog 9 W2).setCell (a := ⟨wo.heap.size, 37, none⟩) (by have := SZ2.out; show W2.heap.size ≠ wo.heap.size; omega) _)
      clear HB2 KJ SZ2 x1 x2 y3 z3
      generalize (W2.alloc (.map #[] 0)).setCell ⟨wo.heap.size, 37, none⟩ (.map (some W2.heap.size)) = W3 at *
      go_wp2_with fail
      go_loopw [8] (fun t8 W => B8 wo i ⟨ek, ex, sr, ia, ic, ia2, ic2⟩ t8 W) (fun t8 _ => ex.length - (intOf t8).toNat)
      case atStart => exact ⟨0, Nat.zero_le _, rfl, HJ1.out⟩
      case round =>
        obtain ⟨j, hj, rfl, hJ⟩ := hrel
        have HJ := Lib.hid hJ
        clear hJ HJ1
        have hj : j ≤ ex.length := hj
        have x1 := HJ.out.1.cell d1
        by_cases hlt2 : j < ex.length
        · obtain ⟨b2, off2, rfl, _, xj⟩ := (HR1.out.kept HJ.out.1).at_ ByteArray.empty hlt2
          have j0 : (j : Int) < (ex.length : Int) := by omega
          have hjn : j < 1000000 := by have := HN2.out; omega
          have HST := Lib.hid (fun (W : World) (k : Kept wr W) => HJ.out.lay k hjn (HSS.out _ (by rw [List.getD_eq_getElem?_getD, List.getElem?_eq_getElem hlt2]; exact List.getElem_mem _)))
          have x37 : wr.cell? ⟨wo.heap.size, 37, none⟩ = some (.map (some (wo.heap.size + 1))) := by
            obtain ⟨_, ⟨cs, hb, _, _, e⟩, _⟩ := HJ.out
            rw [hb.cell]; exact e
          dsimp only at HST
          have W32 : IntKind.u32.wrap (j : Int) = (j : Int) := by rw [IntKind.wrap_u32]; omega
          have W32b : IntKind.u32.wrap (i : Int) = (i : Int) := by rw [IntKind.wrap_u32]; omega
          generalize ex.getD j ByteArray.empty = s at *
          obtain ⟨ob, hrun, hJ2⟩ := HST.out wr.drew ((Kept.refl wr).drew)
          have HJ2 := Lib.hid hJ2
          clear hJ2 HST
          go_upto_region 12 with fail
          go_region
          go_wp2_with fail
          go_roundw
          case rel => exact ⟨j + 1, hlt2, by go_num, HJ2.out⟩
          case measure => simp [intOf]; omega
        · obtain rfl : j = ex.length := by omega
          obtain ⟨W5, rfl⟩ : ∃ W5 : World, W5 = wr := ⟨_, rfl⟩
          have x2 := HJ.out.1.cell d2
          have HR5 := Lib.hid (HR2.out.kept HJ.out.1)
          have hm : sr.length ≤ 262144 := HN1.out
          obtain ⟨C3, l3, g3, m3⟩ := makeN (T := 84) (E := 112) (size := 15) (bytes := 112) Try.underlying84 (by kernel_rfl) sr.length (by omega) (by omega)
          obtain ⟨C4, l4, g4, m4⟩ := makeN (T := 87) (E := 23) (size := 1) (bytes := 4) Try.underlying87 (by kernel_rfl) sr.length (by omega) (by omega)
          have hz3 := g3 10 (.int .u32 0) (by omega) (by kernel_rfl)
          have HR0 : Hid (Rc W5 ((W5.alloc (.cells C3.toArray 112)).alloc (.cells C4.toArray 23)) sr 0) := Lib.hid ⟨((Kept.refl _).alloc _).alloc _, ⟨C3, (Blk.new _ _ _).alloc _, l3, fun k hk => by rw [if_neg (by omega)]; exact hz3 k hk⟩,
            ⟨C4, by have := Blk.new (W5.alloc (.cells C3.toArray 112)) 23 C4; simpa using this, by omega, fun k hk => absurd hk (by omega)⟩⟩
          clear g3 g4 hz3 l3 l4 hlt2
          go_upto_region 16 with fail
          generalize (W5.alloc (.cells C3.toArray 112)).alloc (.cells C4.toArray 23) = wb at *
          clear m3 m4 x1
          go_wp2_with fail
          go_loopw [12] (fun t12 W => B12 W5 sr t12 W) (fun t12 _ => sr.length - (intOf t12).toNat)
          case atStart => exact ⟨0, Nat.zero_le _, rfl, HR0.out⟩
          case round =>
            obtain ⟨j, hj, rfl, hRc⟩ := hrel
            have HRc := Lib.hid hRc
            clear hRc HR0
            have x2 := HRc.out.kept.cell x2
            by_cases hlt3 : j < sr.length
            · obtain ⟨b2, off2, rfl, hb2, xj0⟩ := HR5.out.at_ 0 hlt3
              have xj := HRc.out.kept.cell xj0
              have hy1 := HLO.out j hlt3
              have j0 : (j : Int) < (sr.length : Int) := by omega
              have W32 : IntKind.u32.wrap (j : Int) = (j : Int) := by rw [IntKind.wrap_u32]; omega
              obtain ⟨v5, p5, q5⟩ : ∃ v, wr.cell? ⟨W5.heap.size + 1, j, none⟩ = some v ∧ wr.frozen? ⟨W5.heap.size + 1, j, none⟩ = false := by
                obtain ⟨cx, hx, lx, _⟩ := HRc.out.idx
                exact hx.has (by omega)
              have HX := Lib.hid (HRc.out.index hlt3)
              go_upto_region 20 with fail
              have x2 := HX.out.1.cell (HJ.out.1.cell d2)
              have xj := HX.out.1.cell xj0
              clear p5 q5 hb2 xj0
              generalize wr.setCell ⟨W5.heap.size + 1, j, none⟩ (.int .u32 (j : Int)) = wx at *
              by_cases hy : 0 ≤ sr.getD j 0
              · have HMK := Lib.hid (fun W => make (sr.getD j 0) hy (by omega) W)
                have HST := Lib.hid (fun (W : World) (k : Kept wx W) => HX.out.yes k hlt3 hy)
                have HCE := Lib.hid (fun (W : World) (k : Kept wx W) => HX.out.has k hlt3)
                generalize sr.getD j 0 = y at *
                have W32y : IntKind.u32.wrap y = y := by rw [IntKind.wrap_u32]; omega
                go_wp2_with fail
                refine (HMK.out _).mono ?_
                rintro e W7 ⟨rfl, k7⟩
                have HST2 := Lib.hid (HST.out _ k7)
                obtain ⟨v, p1, p2⟩ := HCE.out _ k7
                clear k7 HST HCE HMK
                go_wp2_with fail
                go_roundw
                case rel => exact ⟨j + 1, by omega, by go_num, HST2.out⟩
                case measure => simp [intOf]; omega
              · have HST := Lib.hid (HX.out.no hy)
                generalize sr.getD j 0 = y at *
                go_wp2_with fail
                go_roundw
                case rel => exact ⟨j + 1, by omega, by go_num, HST.out⟩
                case measure => simp [intOf]; omega
            · obtain rfl : j = sr.length := by omega
              obtain ⟨W6, rfl⟩ : ∃ W6 : World, W6 = wr := ⟨_, rfl⟩
              have HD := Lib.hid (one_done (f := ⟨ek, ex, sr, ia, ic, ia2, ic2⟩) HJ.out HRc.out)
              obtain ⟨cs, hb, l64, _, _⟩ := HJ.out.2.1
              have hb6 := hb.kept HRc.out.kept
              obtain ⟨v4, p1, p2⟩ := hb6.has (i := 35) (by omega)
              obtain ⟨v5, p3, p4⟩ := (hb6.set 35 (.slice (some ⟨W5.heap.size, 0, none⟩) sr.length sr.length)).has (i := 38) (by rw [List.length_set]; omega)
              obtain ⟨v6, p5, p6⟩ := (((hb6.set 35 (.slice (some ⟨W5.heap.size, 0, none⟩) sr.length sr.length)).set 38 (.slice (some ⟨W5.heap.size + 1, 0, none⟩) sr.length sr.length)).alloc (.map #[] 0)).has (i := 1) (by simp; omega)
              have HBB : Hid (wo.heap.size ≤ W5.heap.size ∧ wo.heap.size + 1 < W5.heap.size ∧ W5.heap.size + 1 < W6.heap.size) := Lib.hid (by
                obtain ⟨_, _, sz, _, hm⟩ := HJ.out
                obtain ⟨cx, hx, _⟩ := HRc.out.idx
                exact ⟨HJ.out.1.size, hm.lt, hx.lt⟩)
              clear hb hb6 l64 x2
              go_upto_region 26 with fail
              dsimp only at HD
              generalize (((W6.setCell ⟨wo.heap.size, 35, none⟩ (.slice (some ⟨W5.heap.size, 0, none⟩) sr.length sr.length)).setCell ⟨wo.heap.size, 38, none⟩ (.slice (some ⟨W5.heap.size + 1, 0, none⟩) sr.length sr.length)).alloc (.map #[] 0)).setCell ⟨wo.heap.size, 1, none⟩ (.map (some W6.heap.size)) = W8 at *
              clear p1 p2 p3 p4 p5 p6
              obtain ⟨r1, pr1, pl1, _⟩ := HB.out.rp
              obtain ⟨v9, p3, p4⟩ := (pr1.kept HD.out.1).has (i := i) (by omega)
              clear pr1 pl1
              have HJF := Lib.hid (fun W => jsFile W wo.heap.size 10)
              go_upto_region 27 with fail
              go_wp2_with fail
              refine (HJF.out _).mono ?_
              rintro e W9 ⟨A, rfl, hA, k8⟩
              have HNX := Lib.hid (HB.out.step HD.out.1 (by rw [HFI.out]; exact HD.out.2) (by have := HBB.out; omega) hlt k8 hA)
              obtain ⟨c7, q7, l7, _⟩ := HB.out.lf
              have q8 := ((q7.kept HD.out.1).far (p := ⟨w.heap.size, i, none⟩) (by show w.heap.size + 1 ≠ w.heap.size; omega) (.pointer (some ⟨wo.heap.size, 0, none⟩))).kept k8
              have hth : W9.there (w.heap.size + 1) (i * 24) A.size := q8.there (by rw [hA.1, l7]; have := Nat.mul_le_mul_right 24 (show i + 1 ≤ n by omega); omega)
              have hsA : (Try.prog.info? 134).map (·.size) = some A.size := by rw [hA.1]; exact sizeF
              have hoA : A.all (·.oneCell') = true := hA.2.2
              clear q7 l7 q8 k8 hA HJF p3 p4 HFI
              go_wp2_with (with_reducible refine wpList_store_mid rfl 134 (.tmp 131) (.tmp 130) rfl (w.heap.size + 1) (i * 24) A rfl rfl hth hsA hoA ?_)
              go_roundw
              case rel => exact ⟨i + 1, _, by omega, by go_num, HNX.out⟩
              case measure => simp [intOf]; omega
    · obtain rfl : n = i := by omega
      go_wp2_with fail
      go_ret2
      exact ⟨rfl, q, HB.out⟩
end Go.Proofs.Ytknmcbhcbomjmaa.xs
