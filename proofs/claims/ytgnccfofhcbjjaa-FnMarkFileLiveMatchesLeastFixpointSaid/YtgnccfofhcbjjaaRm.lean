/-
  Files, records, parts and bits in memory over this seat's program, as the marking for code splitting reads and turns them.
  Conditions: none.
-/
import Derived.Test.YtgnccfofhcbjjaaBl
import Derived.Test.YtgnccfofhcbjjaaDst
namespace Go.Proofs.Ytgnccfofhcbjjaa.lk
open Go.ChangeShapes Go.WideShapes Go.ChangeAt Go.RowKit
open kit dfs dst

theorem ixp {t : Int} (h : 0 ≤ t) : ixv t = 4294967295 - t := by unfold ixv; rw [if_pos h]
theorem ixn {t : Int} (h : t < 0) : ixv t = 0 := by unfold ixv; rw [if_neg (by omega)]
structure Fits (F : Ct) : Prop where
  top : F.length ≤ 18724
  lens : Lens F 262144 F.length
  ok : ∀ i, i < F.length → Ok1 F i
def cssAdj (c : Int) : List Nat := if 0 ≤ c then [c.toNat] else []
def recsAdj (R : List Rec) (q : Nat) : List Nat := ((List.range q).filter fun i => decide (0 ≤ (rcd R i).tgt)).map fun i => (rcd R i).tgt.toNat
def depsAdj (v : Nat) (D : List (Nat × Nat)) (q : Nat) : List Nat := ((List.range q).filter fun i => decide ((lk.dep D i).1 ≠ v)).map fun i => (lk.dep D i).1
def partsAdj (v : Nat) (P : List Prt) (j : Nat) : List Nat := (List.range j).flatMap fun p => depsAdj v (prt P p).deps (prt P p).deps.length
def adj (F : Ct) (v : Nat) : List Nat := cssAdj (fl F v).css ++ recsAdj (fl F v).recs (fl F v).recs.length ++ partsAdj v (fl F v).parts (fl F v).parts.length
def liveF (F : Ct) (v : Nat) : Bool := (fl F v).live
theorem recsAdj_succ (R : List Rec) (q : Nat) : recsAdj R (q + 1) = recsAdj R q ++ if 0 ≤ (rcd R q).tgt then [(rcd R q).tgt.toNat] else [] := by
  unfold recsAdj
  rw [List.range_succ, List.filter_append, List.map_append]
  congr 1
  by_cases h : 0 ≤ (rcd R q).tgt <;> simp [h]
theorem depsAdj_succ (v : Nat) (D : List (Nat × Nat)) (q : Nat) : depsAdj v D (q + 1) = depsAdj v D q ++ if (lk.dep D q).1 ≠ v then [(lk.dep D q).1] else [] := by
  unfold depsAdj
  rw [List.range_succ, List.filter_append, List.map_append]
  congr 1
  by_cases h : (lk.dep D q).1 = v <;> simp [h]
theorem partsAdj_succ (v : Nat) (P : List Prt) (j : Nat) : partsAdj v P (j + 1) = partsAdj v P j ++ depsAdj v (prt P j).deps (prt P j).deps.length := by
  unfold partsAdj
  rw [List.range_succ, List.flatMap_append]
  simp
theorem live_lt {F : Ct} {v : Nat} (h : liveF F v = true) : v < F.length := by
  apply Classical.byContradiction
  intro hn
  unfold liveF fl at h
  have e : F[v]? = none := List.getElem?_eq_none (by omega)
  rw [List.getD_eq_getElem?_getD, e] at h
  cases h

structure MemR (w : World) (cb LB ob : Nat) (F : Ct) (J EB PB : Nat → Nat) (d : Nat → Nat) (e : Nat → Nat → Bool) : Prop where
  ctx : ∃ cs, Blk w cb 221 cs ∧ cs[10]? = some (.slice (some ⟨LB, 0, none⟩) F.length F.length) ∧ cs[0]? = some (.pointer (some ⟨ob, 0, none⟩))
  opt : ∃ cs, Blk w ob 195 cs ∧ cs[79]? = some (.bool true)
  files : ∃ cs, Blk w LB 60 cs ∧ cs.length = F.length * 24 ∧ ∀ i, i < F.length → FileAt cs (i * 24) (J i) (EB i) (fl F i) (d i : Int) (fl F i).live
  one : ∀ i, i < F.length → OneJ 0 w (J i) (PB i) (fl F i) ∧ Blk w (EB i) 5 (bitCells (e i))
  ap : ∀ i k, i < F.length → k < F.length → EB i = EB k → i = k
  fit : Fits F
/-- the blocks that the marking may turn -/
def RB (n LB : Nat) (EB : Nat → Nat) (b : Nat) : Prop := b = LB ∨ ∃ i, i < n ∧ EB i = b
theorem PartAt.kept {lo : Nat} {W W2 : World} {cs : List Value} {o : Nat} {p : Prt} {live : Bool} (h : PartAt lo W cs o p live) (k : Kept W W2) : PartAt lo W2 cs o p live := by
  obtain ⟨ib, db, h1, h2, h3, h4, h5, h6, h7, h8, h9⟩ := h
  exact ⟨ib, db, h1, h2, h3, h4, h5, h6, h7, h8.kept k, h9.kept k⟩
/-- a store into a block of another type leaves the file -/
theorem OneJ.turn {lo : Nat} {W W2 : World} {Jb Pb : Nat} {f : Fil} (h : OneJ lo W Jb Pb f) {S : Nat → Prop} (k : Turn W W2 S) (hs : ∀ b t cs, Blk W b t cs → t = 131 ∨ t = 147 ∨ t = 83 ∨ t = 23 ∨ t = 150 → ¬ S b) : OneJ lo W2 Jb Pb f := by
  obtain ⟨⟨l1, cs, rb, rcs, h1, h2, h3, h4, l2, h5, h6⟩, l3, ps, h7, h8, h9, h10⟩ := h
  refine ⟨⟨l1, cs, rb, rcs, k.blk h1 (hs _ _ _ h1 (by simp)), h2, h3, h4, l2, k.blk h5 (hs _ _ _ h5 (by simp)), h6⟩, l3, ps, k.blk h7 (hs _ _ _ h7 (by simp)), h8, h9, fun p hp => ?_⟩
  obtain ⟨ib, db, q1, q2, q3, q4, q5, q6, q7, q8, q9⟩ := h10 p hp
  exact ⟨ib, db, q1, q2, q3, q4, q5, q6, q7, k.blk q8 (hs _ _ _ q8 (by simp)), k.blk q9 (hs _ _ _ q9 (by simp))⟩
section
variable {w w2 : World} {cb LB ob : Nat} {F : Ct} {J EB PB : Nat → Nat} {d : Nat → Nat} {e : Nat → Nat → Bool}
theorem MemR.kept (h : MemR w cb LB ob F J EB PB d e) (k : Kept w w2) : MemR w2 cb LB ob F J EB PB d e := by
  obtain ⟨c1, h1, r1⟩ := h.ctx
  obtain ⟨c2, h2, r2⟩ := h.opt
  obtain ⟨c3, h3, r3⟩ := h.files
  exact ⟨⟨c1, h1.kept k, r1⟩, ⟨c2, h2.kept k, r2⟩, ⟨c3, h3.kept k, r3⟩, fun i hi => ⟨(h.one i hi).1.above (Above.of_kept k), (h.one i hi).2.kept k⟩, h.ap, h.fit⟩
theorem MemR.ctxc (h : MemR w cb LB ob F J EB PB d e) : w.cell? ⟨cb, 10, none⟩ = some (.slice (some ⟨LB, 0, none⟩) F.length F.length) ∧ w.cell? ⟨cb, 0, none⟩ = some (.pointer (some ⟨ob, 0, none⟩)) ∧ w.cell? ⟨ob, 79, none⟩ = some (.bool true) := by
  obtain ⟨c1, h1, r1, r2⟩ := h.ctx
  obtain ⟨c2, h2, r3⟩ := h.opt
  exact ⟨by rw [h1.cell]; exact r1, by rw [h1.cell]; exact r2, by rw [h2.cell]; exact r3⟩
theorem MemR.file (h : MemR w cb LB ob F J EB PB d e) {i : Nat} (hi : i < F.length) : w.cell? ⟨LB, i * 24, none⟩ = some (.slice (some ⟨EB i, 0, none⟩) 32 32) ∧ w.cell? ⟨LB, i * 24 + 2, none⟩ = some (.iface 132 (.pointer (some ⟨J i, 0, none⟩))) ∧
    w.cell? ⟨LB, i * 24 + 20, none⟩ = some (.int .u32 (d i : Int)) ∧ w.frozen? ⟨LB, i * 24 + 20, none⟩ = false ∧ w.cell? ⟨LB, i * 24 + 22, none⟩ = some (.int .u8 0) ∧ w.cell? ⟨LB, i * 24 + 23, none⟩ = some (.bool (fl F i).live) := by
  obtain ⟨c, h1, _, h2⟩ := h.files
  obtain ⟨q1, q2, q3, q4, q5, q6⟩ := h2 i hi
  exact ⟨by rw [h1.cell]; exact q1, by rw [h1.cell]; exact q2, by rw [h1.cell]; exact q4, h1.free _, by rw [h1.cell]; exact q5, by rw [h1.cell]; exact q6⟩
/-- the JSRepr of file i -/
theorem MemR.js (h : MemR w cb LB ob F J EB PB d e) {i : Nat} (hi : i < F.length) : ∃ rb rcs, w.cell? ⟨J i, 63, none⟩ = some (.int .u32 (ixv (fl F i).css)) ∧ w.cell? ⟨J i, 35, none⟩ = some (.slice (some ⟨rb, 0, none⟩) (fl F i).recs.length (fl F i).recs.length) ∧
    w.cell? ⟨J i, 20, none⟩ = some (.slice (some ⟨PB i, 0, none⟩) (fl F i).parts.length (fl F i).parts.length) ∧ Blk w rb 147 rcs ∧ rcs.length = (fl F i).recs.length * 15 ∧ One_ rcs ∧ ∀ q, q < (fl F i).recs.length → RecAt rcs (q * 15) (rcd (fl F i).recs q) := by
  obtain ⟨⟨_, cs, rb, rcs, h1, h2, h3, h4, _, h5, h6, h7, h8⟩, _⟩ := (h.one i hi).1
  exact ⟨rb, rcs, by rw [h1.cell]; exact h4, by rw [h1.cell]; exact h3, by rw [h1.cell]; exact h2, h5, h6, h7, h8⟩
theorem MemR.parts (h : MemR w cb LB ob F J EB PB d e) {i : Nat} (hi : i < F.length) : ∃ pcs, Blk w (PB i) 83 pcs ∧ pcs.length = (fl F i).parts.length * 11 ∧ One_ pcs ∧ ∀ p, p < (fl F i).parts.length → PartAt 0 w pcs (p * 11) (prt (fl F i).parts p) false := by
  obtain ⟨_, _, pcs, h1, h2, h3, h4⟩ := (h.one i hi).1
  exact ⟨pcs, h1, h2, h3, h4⟩
theorem MemR.setDist (h : MemR w cb LB ob F J EB PB d e) {v k : Nat} (hv : v < F.length) : MemR (w.setCell ⟨LB, v * 24 + 20, none⟩ (.int .u32 (k : Int))) cb LB ob F J EB PB (upd d v k) e := by
  obtain ⟨c1, h1, r1⟩ := h.ctx
  obtain ⟨c2, h2, r2⟩ := h.opt
  obtain ⟨c3, h3, l3, r3⟩ := h.files
  have hT : Turn w (w.setCell ⟨LB, v * 24 + 20, none⟩ (.int .u32 (k : Int))) (fun b => b = LB) := (Turn.refl w (fun b => b = LB)).set (p := ⟨LB, v * 24 + 20, none⟩) rfl _
  refine ⟨⟨c1, h1.far (h1.apart h3 (by decide)) _, r1⟩, ⟨c2, h2.far (h2.apart h3 (by decide)) _, r2⟩, ⟨_, h3.set _ _, by rw [List.length_set]; exact l3, fun i hi => ?_⟩, fun i hi => ⟨(h.one i hi).1.turn hT fun b t cs hb ht e => ?_, (h.one i hi).2.far ((h.one i hi).2.apart h3 (by decide)) _⟩, h.ap, h.fit⟩
  · obtain ⟨q1, q2, q3, q4, q5, q6⟩ := r3 i hi
    have hlt := slot_lt (size := 24) hv (j := 20) (by omega)
    refine ⟨by rw [List.getElem?_set_ne (by omega)]; exact q1, by rw [List.getElem?_set_ne (by omega)]; exact q2, by rw [List.getElem?_set_ne (by omega)]; exact q3, ?_, by rw [List.getElem?_set_ne (by omega)]; exact q5, by rw [List.getElem?_set_ne (by omega)]; exact q6⟩
    by_cases e1 : i = v
    · rw [e1, List.getElem?_set_self (by omega), upd_same]
    · rw [List.getElem?_set_ne (by omega), upd_ne _ _ e1]; exact q4
  · exact hb.apart h3 (by rcases ht with rfl | rfl | rfl | rfl | rfl <;> decide) e
/-- the bits of file v turned -/
theorem MemR.setBits (h : MemR w cb LB ob F J EB PB d e) {v b : Nat} (hv : v < F.length) (hb : Blk w2 (EB v) 5 (bitCells (upd (e v) b true))) (k : Turn w w2 (fun x => x = EB v)) : MemR w2 cb LB ob F J EB PB d (bset e v b) := by
  obtain ⟨c1, h1, r1⟩ := h.ctx
  obtain ⟨c2, h2, r2⟩ := h.opt
  obtain ⟨c3, h3, r3⟩ := h.files
  have hE := (h.one v hv).2
  refine ⟨⟨c1, k.blk h1 (h1.apart hE (by decide)), r1⟩, ⟨c2, k.blk h2 (h2.apart hE (by decide)), r2⟩, ⟨c3, k.blk h3 (h3.apart hE (by decide)), r3⟩, fun i hi => ⟨(h.one i hi).1.turn k fun b t cs hb ht e => ?_, ?_⟩, h.ap, h.fit⟩
  · exact hb.apart hE (by rcases ht with rfl | rfl | rfl | rfl | rfl <;> decide) e
  · unfold bset
    by_cases e1 : i = v
    · subst e1; rw [upd_same]; exact hb
    · rw [upd_ne _ _ e1]
      exact k.blk (h.one i hi).2 (fun c => e1 (h.ap i v hi hv c))
end
theorem upd_self {α β : Type} [DecidableEq α] (f : α → β) (v : α) : upd f v (f v) = f := by
  funext x
  by_cases h : x = v
  · rw [h, upd_same]
  · rw [upd_ne _ _ h]
end Go.Proofs.Ytgnccfofhcbjjaa.lk
