/-
  What jsBuild lays in memory over this seat's program.
  Conditions: none.
-/
import Derived.Test.YtkogmgonceneeaaCp
import Derived.Test.YtkogmgonceneeaaCe
import Derived.Test.YtkogmgonceneeaaCi
import Derived.Test.YtkogmgonceneeaaCf2
namespace Go.Proofs.Ytkogmgonceneeaa.css
open Go.ChangeShapes Go.WideShapes Go.ChangeAt Go.RowKit
open kit dfs

/-- an import record's cells: a target or none -/
def zR : List Value := [.pointer none, .pointer none, .string ⟨#[]⟩, .string ⟨#[]⟩, .string ⟨#[]⟩, .string ⟨#[]⟩, .int .u8 0, .int .i32 0, .int .i32 0, .int .i32 0, .int .u32 0, .int .u32 0, .int .u16 0, .int .u8 0, .int .u8 0]
def rc (t : Option Nat) : List Value := zR.set 10 (.int .u32 (ixv t))
theorem rc_len (t : Option Nat) : (rc t).length = 15 := rfl
theorem rc_none : rc none = zR := rfl
theorem rc_10 (t : Option Nat) : (rc t)[10]? = some (.int .u32 (ixv t)) := rfl
theorem rc_one (t : Option Nat) : ∀ u ∈ rc t, u.oneCell' = true := by
  have h : (rc t).all (·.oneCell') = true := by simp [rc, zR, Value.oneCell']
  exact List.all_eq_true.1 h
theorem rcs_at {R : List (Option Nat)} {m : Nat} {t : Option Nat} (h : R[m]? = some t) : (R.flatMap rc)[m * 15 + 10]? = some (.int .u32 (ixv t)) := by
  induction R generalizing m with
  | nil => simp at h
  | cons x r ih =>
    rw [List.flatMap_cons]
    cases m with
    | zero =>
      simp at h
      subst h
      rw [List.getElem?_append_left (by rw [rc_len]; omega)]
      exact rc_10 x
    | succ m =>
      simp at h
      rw [List.getElem?_append_right (by rw [rc_len]; omega), rc_len, show (m + 1) * 15 + 10 - 15 = m * 15 + 10 by omega]
      exact ih h
theorem pushN {α : Type} {w W W2 : World} {E : TypeId} {size : Nat} {o : Obj} {f : α → List Value} {t v : Value} {l : List α} {u : α} (hk : Kept w W) (h : Wk W w.heap.size E size f t l) (hown : W2.ownsRow w.heap.size E size v (l.length + 1) (l.flatMap f ++ f u)) (hg : (W.alloc o).grownBy W2 t.ownBlock) (hat : v.ownBlock = t.ownBlock ∨ v.ownBlock = some (W.alloc o).heap.size) :
    Wk W2 w.heap.size E size f v (l ++ [u]) ∧ Kept w W2 ∧ Aside W W2 t v := by
  have h1 : (W.alloc o).heap.size = W.heap.size + 1 := by simp
  refine ⟨Wk.of_own hown (by simp) (by simp), keptGrown (hk.alloc o) hg (fun k hk => (h.2.lt k hk).1), ⟨by have := hg.size; omega, fun k hk ht => ?_, fun g hg => ?_⟩⟩
  · exact (hg.block k (by omega) (fun c => ht c.symm)).trans (Below.heap_alloc W o k hk)
  · rcases hat with c | c
    · exact .inl (c ▸ hg)
    · rw [c] at hg
      have := Option.some.inj hg
      right; omega
theorem setCells_block (b : Nat) {k : Nat} (hk : k ≠ b) : ∀ (vs : List Value) (o : Nat) (W : World), (W.setCells b o vs).heap[k]? = W.heap[k]? := by
  intro vs
  induction vs with
  | nil => intro o W; rfl
  | cons v r ih => intro o W; exact (ih (o + 1) _).trans (Below.heap_setCell W ⟨b, o, none⟩ v k hk)
theorem wk_fars {α : Type} {W : World} {base : Nat} {E : TypeId} {size : Nat} {f : α → List Value} {t : Value} {l : List α} (h : Wk W base E size f t l) {b T : Nat} {cs : List Value} (hb : Blk W b T cs) (hT : E ≠ T) (o : Nat) (vs : List Value) : Wk (W.setCells b o vs) base E size f t l :=
  ⟨h.1, own_block h.2 fun k hk => setCells_block b (fun e => hb.notOwned h.2 hT (e ▸ hk)) vs o W⟩

/-- a struct's cells laid one by one over a row of the same length -/
theorem fold_set (CS : List Value) : ∀ (k : Nat) (Z : Array Value), Z.size = k + CS.length → ∀ i, ((CS.zipIdx k).foldl (fun cs x => cs.setIfInBounds x.2 x.1) Z)[i]? = if i < k then Z[i]? else CS[i - k]? := by
  induction CS with
  | nil =>
    intro k Z h i
    simp only [List.zipIdx_nil, List.foldl_nil, List.length_nil, Nat.add_zero] at h ⊢
    split
    · rfl
    · rw [Array.getElem?_eq_none (by omega)]; simp
  | cons x r ih =>
    intro k Z h i
    simp only [List.length_cons] at h
    rw [List.zipIdx_cons, List.foldl_cons, ih (k + 1) _ (by simp; omega) i]
    by_cases e : i = k
    · subst e
      rw [if_pos (by omega), if_neg (by omega)]
      simp [Array.getElem?_setIfInBounds, show i < Z.size by omega]
    · by_cases l : i < k
      · rw [if_pos (by omega), if_pos l]
        simp [Array.getElem?_setIfInBounds, show k ≠ i by omega]
      · rw [if_neg (by omega), if_neg l, show i - k = (i - (k + 1)) + 1 by omega, List.getElem?_cons_succ]
theorem newsOf2 (w : World) (Z : Array Value) (CS : List Value) (t : TypeId) (h : CS.length = Z.size) : ∀ j u, CS[j]? = some u → (w.alloc (.cells (List.foldl (fun cs x => cs.setIfInBounds x.2 x.1) Z CS.zipIdx) t)).cell? ((⟨w.heap.size, 0, none⟩ : Addr).add j) = some u := by
  intro j u hj
  have e : (⟨w.heap.size, 0, none⟩ : Addr).add j = ⟨w.heap.size, j, none⟩ := by rw [Addr.add_mid, Nat.zero_add]
  rw [e]
  have hb : Blk (w.alloc (.cells (List.foldl (fun cs x => cs.setIfInBounds x.2 x.1) Z CS.zipIdx) t)) w.heap.size t (List.foldl (fun cs x => cs.setIfInBounds x.2 x.1) Z CS.zipIdx).toList := by have := Blk.new w t (List.foldl (fun cs x => cs.setIfInBounds x.2 x.1) Z CS.zipIdx).toList; simpa using this
  rw [hb.cell, Array.getElem?_toList, fold_set CS 0 Z (by omega) j, if_neg (by omega)]
  exact hj

/-- block b holds, for each of the first q imports, the number of a record that names its target -/
def IdxC (W : World) (b : Nat) (D : List Imp) (q : Nat) (R : List (Option Nat)) : Prop :=
  ∃ cs, Blk W b 23 cs ∧ cs.length = D.length ∧ ∀ k (_ : k < D.length), k < q → ∃ m : Nat, cs[k]? = some (.int .u32 (m : Int)) ∧ R[m]? = some (tgt D[k])
/-- the same, and the next number is that of the record to come -/
def IdxP (W : World) (b : Nat) (D : List Imp) (q : Nat) (R : List (Option Nat)) : Prop :=
  ∃ cs, Blk W b 23 cs ∧ cs.length = D.length ∧ cs[q]? = some (.int .u32 (R.length : Int)) ∧ ∀ k (_ : k < D.length), k < q → ∃ m : Nat, cs[k]? = some (.int .u32 (m : Int)) ∧ R[m]? = some (tgt D[k])
section
variable {W W2 : World} {b q : Nat} {D : List Imp} {R : List (Option Nat)}
theorem IdxC.kept (h : IdxC W b D q R) (k : Kept W W2) : IdxC W2 b D q R := by
  obtain ⟨cs, hb, r⟩ := h
  exact ⟨cs, hb.kept k, r⟩
theorem IdxP.kept (h : IdxP W b D q R) (k : Kept W W2) : IdxP W2 b D q R := by
  obtain ⟨cs, hb, r⟩ := h
  exact ⟨cs, hb.kept k, r⟩
theorem IdxP.lt (h : IdxP W b D q R) : b ≤ W.heap.size := by
  obtain ⟨cs, hb, _⟩ := h
  exact Nat.le_of_lt hb.lt
theorem IdxP.newRec (h : IdxP W b D q R) {g : Nat} {c : List Value} (hg : Blk W g 142 c) (u : Value) : IdxP (W.setCell ⟨g, 10, none⟩ u) b D q R := by
  obtain ⟨cs, hb, r⟩ := h
  exact ⟨cs, hb.far (p := ⟨g, 10, none⟩) (hb.apart hg (by decide)) _, r⟩
theorem IdxC.blk (h : IdxC W b D q R) (k : ∀ cs, Blk W b 23 cs → Blk W2 b 23 cs) : IdxC W2 b D q R := by
  obtain ⟨cs, hb, r⟩ := h
  exact ⟨cs, k cs hb, r⟩
theorem IdxC.more (h : IdxC W b D q R) (x : Option Nat) : IdxC W b D q (R ++ [x]) := by
  obtain ⟨cs, hb, hl, hc⟩ := h
  refine ⟨cs, hb, hl, fun k hk hq => ?_⟩
  obtain ⟨m, h1, h2⟩ := hc k hk hq
  exact ⟨m, h1, by rw [List.getElem?_append_left (List.getElem?_eq_some_iff.1 h2).1]; exact h2⟩
end
/-- the value of a part -/
def PartV (db nd : Nat) (A : Array Value) : Prop := A.size = 11 ∧ A.all (·.oneCell') = true ∧ A.toList[2]? = some (.slice (some ⟨db, 0, none⟩) nd nd)
/-- file i's parts, j of them laid, x records -/
structure Bq (wo W : World) (F : Ct) (i j x : Nat) (t : Value) (R : List (Option Nat)) (DB : Nat → Nat) : Prop where
  kept : Kept wo W
  recs : Wk W wo.heap.size 142 15 rc t R
  row : ∃ cs, Blk W wo.heap.size 152 cs ∧ cs.length = np F i * 11 ∧ (∀ v ∈ cs, v.oneCell' = true) ∧ ∀ p, p < j → cs[p * 11 + 2]? = some (.slice (some ⟨DB p, 0, none⟩) (plen F i p) (plen F i p))
  dps : ∀ p, p < j → IdxC W (DB p) (imps F i p) (plen F i p) R
  len : R.length = x
section
variable {wo W W2 : World} {F : Ct} {i j x db q : Nat} {t v : Value} {R : List (Option Nat)} {DB : Nat → Nat} {D : List Imp}
theorem Bq.kept2 (h : Bq wo W F i j x t R DB) (k : Kept W W2) : Bq wo W2 F i j x t R DB := by
  obtain ⟨cs, hb, r⟩ := h.row
  exact ⟨h.kept.trans k, h.recs.kept k, ⟨cs, hb.kept k, r⟩, fun p hp => (h.dps p hp).kept k, h.len⟩
/-- a store into a fresh record behind the recs' row -/
theorem Bq.newRec (h : Bq wo W F i j x t R DB) {g : Nat} {c : List Value} (hg : Blk W g 142 c) (hw : wo.heap.size ≤ g) (hn : t.ownBlock ≠ some g) (u : Value) : Bq wo (W.setCell ⟨g, 10, none⟩ u) F i j x t R DB := by
  obtain ⟨cs, hb, r⟩ := h.row
  exact ⟨h.kept.setCell (p := ⟨g, 10, none⟩) hw _, h.recs.far (p := ⟨g, 10, none⟩) hn _, ⟨cs, hb.far (p := ⟨g, 10, none⟩) (hb.apart hg (by decide)) _, r⟩, fun p hp => (h.dps p hp).blk fun cs hcs => hcs.far (p := ⟨g, 10, none⟩) (hcs.apart hg (by decide)) _, h.len⟩
theorem Bq.idx (h : Bq wo W F i j x t R DB) (hI : IdxC W db D q R) (hne : ∀ p, p < j → DB p ≠ db) (hdb : wo.heap.size ≤ db) (hq : q < D.length) : Bq wo (W.setCell ⟨db, q, none⟩ (.int .u32 (R.length : Int))) F i j x t R DB ∧ IdxP (W.setCell ⟨db, q, none⟩ (.int .u32 (R.length : Int))) db D q R := by
  obtain ⟨cs, hb, hl, hc⟩ := hI
  obtain ⟨c2, hb2, r2⟩ := h.row
  refine ⟨⟨h.kept.setCell (p := ⟨db, q, none⟩) hdb _, h.recs.farBlk hb (by decide) q _, ⟨c2, hb2.far (p := ⟨db, q, none⟩) (hb2.apart hb (by decide)) _, r2⟩, fun p hp => (h.dps p hp).blk fun cs hcs => hcs.far (p := ⟨db, q, none⟩) (hne p hp) _, h.len⟩, _, hb.set q _, by rw [List.length_set]; exact hl, by rw [List.getElem?_set_self (by omega)], fun k hk hkq => ?_⟩
  rw [List.getElem?_set_ne (by omega)]
  exact hc k hk hkq
theorem Bq.push {o : Obj} (h : Bq wo W F i j x t R DB) (hP : IdxP W db D q R) (hq : q < D.length) (hown : W2.ownsRow wo.heap.size 142 15 v (R.length + 1) (R.flatMap rc ++ rc (tgt D[q]))) (hg : (W.alloc o).grownBy W2 t.ownBlock) (hat : v.ownBlock = t.ownBlock ∨ v.ownBlock = some (W.alloc o).heap.size) :
    Bq wo W2 F i j (x + 1) v (R ++ [tgt D[q]]) DB ∧ IdxC W2 db D (q + 1) (R ++ [tgt D[q]]) := by
  obtain ⟨h1, h2, h3⟩ := pushN (u := tgt D[q]) h.kept h.recs hown hg hat
  obtain ⟨c2, hb2, r2⟩ := h.row
  obtain ⟨cs, hb, hl, hcq, hc⟩ := hP
  refine ⟨⟨h2, h1, ⟨c2, h3.blk hb2 (hb2.notOwned h.recs.2 (by decide)), r2⟩, fun p hp => ((h.dps p hp).more _).blk fun cs hcs => h3.blk hcs (hcs.notOwned h.recs.2 (by decide)), by simp [h.len]⟩, cs, h3.blk hb (hb.notOwned h.recs.2 (by decide)), hl, fun k hk hkq => ?_⟩
  by_cases e : k = q
  · subst e
    exact ⟨R.length, hcq, by simp⟩
  · obtain ⟨m, q1, q2⟩ := hc k hk (by omega)
    exact ⟨m, q1, by rw [List.getElem?_append_left (List.getElem?_eq_some_iff.1 q2).1]; exact q2⟩
theorem Bq.part {A : Array Value} (h : Bq wo W F i j x t R DB) (hI : IdxC W db (imps F i j) (plen F i j) R) (hj : j < np F i) (hA : PartV db (plen F i j) A) : Bq wo (W.setCells wo.heap.size (j * 11) A.toList) F i (j + 1) x t R (upd DB j db) := by
  obtain ⟨cs, hb, hl, ho, hc⟩ := h.row
  have hA11 : A.toList.length = 11 := by simpa using hA.1
  have hr : j * 11 + 11 ≤ np F i * 11 := by have := Nat.mul_le_mul_right 11 (show j + 1 ≤ np F i by omega); omega
  obtain ⟨c2, t2, l2, a2, b2⟩ := Blk.setCells A.toList (j * 11) W _ hb (by rw [hA11, hl]; exact hr)
  refine ⟨Kept.setCells _ _ _ h.kept (Nat.le_refl _), wk_fars h.recs hb (by decide) _ _, ⟨c2, t2, l2.trans hl, fun v hv => ?_, fun p hp => ?_⟩, fun p hp => ?_, h.len⟩
  · obtain ⟨y, hy, rfl⟩ := List.getElem_of_mem hv
    by_cases e : y < j * 11 ∨ j * 11 + A.toList.length ≤ y
    · have := a2 y e
      rw [List.getElem?_eq_getElem hy, List.getElem?_eq_getElem (by omega)] at this
      rw [Option.some.inj this]
      exact ho _ (List.getElem_mem _)
    · have := b2 (y - j * 11) (by omega)
      rw [show j * 11 + (y - j * 11) = y by omega, List.getElem?_eq_getElem hy, List.getElem?_eq_getElem (by omega)] at this
      rw [Option.some.inj this]
      exact (Array.all_eq_true_iff_forall_mem.1 hA.2.1) _ (by simp)
  · by_cases e : p = j
    · subst e
      rw [upd_same, b2 2 (by omega)]
      exact hA.2.2
    · rw [upd_ne _ _ e, a2 _ (by omega)]
      exact hc p (by omega)
  · by_cases e : p = j
    · subst e
      rw [upd_same]
      exact hI.blk fun c hc => Blk.setCellsFar (hc.apart hb (by decide)) _ _ _ _ hc
    · rw [upd_ne _ _ e]
      exact (h.dps p (by omega)).blk fun c hc => Blk.setCellsFar (hc.apart hb (by decide)) _ _ _ _ hc
end

/-- where a file's JSRepr lies, its parts, their numbers, its records -/
structure Rp where
  J : Nat
  P : Nat
  D : Nat → Nat
  t : Value
  R : List (Option Nat)
/-- file i lies there -/
structure One (W : World) (g : Rp) (F : Ct) (i : Nat) : Prop where
  repr : ∃ cs, Blk W g.J 181 cs ∧ cs[20]? = some (.slice (some ⟨g.P, 0, none⟩) (np F i) (np F i)) ∧ cs[35]? = some g.t ∧ cs[63]? = some (.int .u32 (ixv (cssT F i)))
  parts : ∃ cs, Blk W g.P 152 cs ∧ cs.length = np F i * 11 ∧ (∀ v ∈ cs, v.oneCell' = true) ∧ ∀ p, p < np F i → cs[p * 11 + 2]? = some (.slice (some ⟨g.D p, 0, none⟩) (plen F i p) (plen F i p))
  idx : ∀ p, p < np F i → IdxC W (g.D p) (imps F i p) (plen F i p) g.R
  recs : Wk W 0 142 15 rc g.t g.R
section
variable {W W2 : World} {g : Rp} {F : Ct} {i : Nat}
theorem One.kept (h : One W g F i) (k : Kept W W2) : One W2 g F i := by
  obtain ⟨⟨c1, h1, r1⟩, ⟨c2, h2, r2⟩, h3, h4⟩ := h
  exact ⟨⟨c1, h1.kept k, r1⟩, ⟨c2, h2.kept k, r2⟩, fun p hp => (h3 p hp).kept k, h4.kept k⟩
theorem One.fars (h : One W g F i) {b : Nat} {cs : List Value} (hb : Blk W b 202 cs) (o : Nat) (vs : List Value) : One (W.setCells b o vs) g F i := by
  obtain ⟨⟨c1, h1, r1⟩, ⟨c2, h2, r2⟩, h3, h4⟩ := h
  exact ⟨⟨c1, Blk.setCellsFar (h1.apart hb (by decide)) _ _ _ _ h1, r1⟩, ⟨c2, Blk.setCellsFar (h2.apart hb (by decide)) _ _ _ _ h2, r2⟩, fun p hp => (h3 p hp).blk fun c hc => Blk.setCellsFar (hc.apart hb (by decide)) _ _ _ _ hc, wk_fars h4 hb (by decide) _ _⟩
theorem Bq.one {wo : World} {x jb : Nat} {t : Value} {R : List (Option Nat)} {DB : Nat → Nat} {cs : List Value} (h : Bq wo W F i (np F i) x t R DB) (k : Kept W W2) (hb : Blk W2 jb 181 cs) (h20 : cs[20]? = some (.slice (some ⟨wo.heap.size, 0, none⟩) (np F i) (np F i))) (h35 : cs[35]? = some t) (h63 : cs[63]? = some (.int .u32 (ixv (cssT F i)))) :
    One W2 ⟨jb, wo.heap.size, DB, t, R⟩ F i := by
  have h2 := h.kept2 k
  exact ⟨⟨cs, hb, h20, h35, h63⟩, h2.row, h2.dps, h2.recs.1, own_mono h2.recs.2 (Nat.zero_le _)⟩
end
structure Bd (w0 wr : World) (n i : Nat) (G : Nat → Rp) (F : Ct) : Prop where
  kept : Kept w0 wr
  files : ∃ cs, Blk wr w0.heap.size 202 cs ∧ cs.length = n * 24 ∧ ∀ j, j < i → cs[j * 24 + 2]? = some (.iface 153 (.pointer (some ⟨(G j).J, 0, none⟩)))
  one : ∀ j, j < i → One wr (G j) F j
theorem Bd.step {w0 wr W1 W2 : World} {n i : Nat} {g : Rp} {G : Nat → Rp} {F : Ct} {A : Array Value} (h : Bd w0 wr n i G F) (k1 : Kept wr W1) (hO : One W1 g F i) (hi : i < n) (k2 : Kept W1 W2) (hA : FileV g.J A) :
    Bd w0 (W2.setCells w0.heap.size (i * 24) A.toList) n (i + 1) (upd G i g) F := by
  obtain ⟨c2, p2, l2, e2⟩ := h.files
  have s2 := (p2.kept k1).kept k2
  have hA24 : A.toList.length = 24 := by simpa using hA.1
  have hr : i * 24 + 24 ≤ n * 24 := by have := Nat.mul_le_mul_right 24 (show i + 1 ≤ n by omega); omega
  obtain ⟨c3, t2, l3, a3, b3⟩ := Blk.setCells A.toList (i * 24) W2 _ s2 (by rw [hA24, l2]; exact hr)
  refine ⟨Kept.setCells _ _ _ ((h.kept.trans k1).trans k2) (Nat.le_refl _), ⟨c3, t2, l3.trans l2, fun j hj => ?_⟩, fun j hj => ?_⟩
  · by_cases ej : j = i
    · rw [ej, upd_same, b3 2 (by omega)]
      simpa using hA.2.1
    · rw [upd_ne _ _ ej, a3 _ (by omega)]
      exact e2 j (by omega)
  · by_cases ej : j = i
    · rw [ej, upd_same]
      exact (hO.kept k2).fars s2 _ _
    · rw [upd_ne _ _ ej]
      exact (((h.one j (by omega)).kept k1).kept k2).fars s2 _ _
/-- the files as the visit wants them -/
structure Mem (W : World) (cb LB n : Nat) (G : Nat → Rp) (F : Ct) : Prop where
  ctx : ∃ cs, Blk W cb 128 cs ∧ cs[10]? = some (.slice (some ⟨LB, 0, none⟩) n n)
  files : ∃ cs, Blk W LB 202 cs ∧ ∀ j, j < n → cs[j * 24 + 2]? = some (.iface 153 (.pointer (some ⟨(G j).J, 0, none⟩)))
  one : ∀ j, j < n → One W (G j) F j
theorem Mem.kept {W W2 : World} {cb LB n : Nat} {G : Nat → Rp} {F : Ct} (h : Mem W cb LB n G F) (k : Kept W W2) : Mem W2 cb LB n G F := by
  obtain ⟨⟨c1, h1, r1⟩, ⟨c2, h2, r2⟩, h3⟩ := h
  exact ⟨⟨c1, h1.kept k, r1⟩, ⟨c2, h2.kept k, r2⟩, fun j hj => (h3 j hj).kept k⟩
theorem Bd.mem {w0 wr W : World} {n cb : Nat} {G : Nat → Rp} {F : Ct} {cs : List Value} (h : Bd w0 wr n n G F) (k : Kept wr W) (hb : Blk W cb 128 cs) (hc : cs[10]? = some (.slice (some ⟨w0.heap.size, 0, none⟩) n n)) : Mem W cb w0.heap.size n G F := by
  obtain ⟨c2, p2, l2, e2⟩ := h.files
  exact ⟨⟨cs, hb, hc⟩, ⟨c2, p2.kept k, e2⟩, fun j hj => (h.one j hj).kept k⟩
end Go.Proofs.Ytkogmgonceneeaa.css
