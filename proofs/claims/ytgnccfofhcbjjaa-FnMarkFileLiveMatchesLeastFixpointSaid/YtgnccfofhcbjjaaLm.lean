/-
  What marking files and parts live reads and turns in memory over this seat's program, and the graph that it walks.
  Conditions: none.
-/
import Derived.Test.YtgnccfofhcbjjaaRv
import Derived.Test.YtgnccfofhcbjjaaWork
namespace Go.Proofs.Ytgnccfofhcbjjaa.lk
open Go.ChangeShapes Go.WideShapes Go.ChangeAt Go.RowKit
open kit dfs dst

abbrev Nd := Nat ⊕ (Nat × Nat)
def np (F : Ct) (f : Nat) : Nat := (fl F f).parts.length
def pp (F : Ct) (f p : Nat) : Prt := prt (fl F f).parts p
/-- a record that keeps its part -/
def keeps (F : Ct) (g : Bool) (r : Rec) : Bool := decide (r.kind = 1) && (if 0 ≤ r.tgt then (fl F r.tgt.toNat).side || g else !r.ext)
def adds (F : Ct) (g : Bool) (r : Rec) : List Nd := if keeps F g r = true ∧ 0 ≤ r.tgt then [.inl r.tgt.toNat] else []
/-- the record that entry k of part p names -/
def rec_ (F : Ct) (f p k : Nat) : Rec := rcd (fl F f).recs (nat (pp F f p).recs k)
def recAdds (F : Ct) (g : Bool) (f p q : Nat) : List Nd := (List.range q).flatMap fun k => adds F g (rec_ F f p k)
def keepQ (F : Ct) (g : Bool) (f p q : Nat) : Bool := (List.range q).any fun k => keeps F g (rec_ F f p k)
def keepP (F : Ct) (g : Bool) (f p : Nat) : Bool := !(pp F f p).rem || keepQ F g f p (pp F f p).recs.length
def partSucc (F : Ct) (g : Bool) (f p : Nat) : List Nd := recAdds F g f p (pp F f p).recs.length ++ if keepP F g f p = true then [.inr (f, p)] else []
def partsSucc (F : Ct) (g : Bool) (f j : Nat) : List Nd := (List.range j).flatMap fun p => partSucc F g f p
def cssSucc (c : Int) : List Nd := if 0 ≤ c then [.inl c.toNat] else []
def succ (F : Ct) (g : Bool) : Nd → List Nd
  | .inl f => cssSucc (fl F f).css ++ partsSucc F g f (np F f)
  | .inr (f, p) => .inl f :: (pp F f p).deps.map .inr
def In (F : Ct) : Nd → Prop
  | .inl f => f < F.length
  | .inr (f, p) => f < F.length ∧ p < np F f
theorem recAdds_succ (F : Ct) (g : Bool) (f p q : Nat) : recAdds F g f p (q + 1) = recAdds F g f p q ++ adds F g (rec_ F f p q) := by
  unfold recAdds
  rw [List.range_succ, List.flatMap_append]
  simp
theorem keepQ_succ (F : Ct) (g : Bool) (f p q : Nat) : keepQ F g f p (q + 1) = (keepQ F g f p q || keeps F g (rec_ F f p q)) := by
  unfold keepQ
  rw [List.range_succ, List.any_append]
  simp
theorem partsSucc_succ (F : Ct) (g : Bool) (f j : Nat) : partsSucc F g f (j + 1) = partsSucc F g f j ++ partSucc F g f j := by
  unfold partsSucc
  rw [List.range_succ, List.flatMap_append]
  simp
section
variable {F : Ct} {g : Bool} {f p q : Nat}
theorem mem_css (h : 0 ≤ (fl F f).css) : (.inl (fl F f).css.toNat : Nd) ∈ succ F g (.inl f) := by
  show _ ∈ cssSucc (fl F f).css ++ _
  refine List.mem_append_left _ ?_
  unfold cssSucc
  rw [if_pos h]
  exact List.mem_singleton.2 rfl
theorem mem_part (hp : p < np F f) {t : Nd} (ht : t ∈ partSucc F g f p) : t ∈ succ F g (.inl f) := by
  show _ ∈ _ ++ partsSucc F g f (np F f)
  refine List.mem_append_right _ ?_
  unfold partsSucc
  exact List.mem_flatMap.2 ⟨p, List.mem_range.2 hp, ht⟩
theorem mem_keep (hp : p < np F f) (h : keepP F g f p = true) : (.inr (f, p) : Nd) ∈ succ F g (.inl f) := by
  refine mem_part hp ?_
  unfold partSucc
  rw [if_pos h]
  exact List.mem_append_right _ (List.mem_singleton.2 rfl)
theorem mem_rec (hp : p < np F f) (hq : q < (pp F f p).recs.length) (h1 : keeps F g (rec_ F f p q) = true) (h2 : 0 ≤ (rec_ F f p q).tgt) : (.inl (rec_ F f p q).tgt.toNat : Nd) ∈ succ F g (.inl f) := by
  refine mem_part hp (List.mem_append_left _ ?_)
  unfold recAdds
  refine List.mem_flatMap.2 ⟨q, List.mem_range.2 hq, ?_⟩
  unfold adds
  rw [if_pos ⟨h1, h2⟩]
  exact List.mem_singleton.2 rfl
theorem dep_mem {D : List (Nat × Nat)} {k : Nat} (hk : k < D.length) : lk.dep D k ∈ D := by
  unfold lk.dep
  rw [List.getD_eq_getElem?_getD, List.getElem?_eq_getElem hk]
  exact List.getElem_mem hk
theorem mem_dep (hq : q < (pp F f p).deps.length) : (.inr (lk.dep (pp F f p).deps q) : Nd) ∈ succ F g (.inr (f, p)) := List.mem_cons_of_mem _ (List.mem_map.2 ⟨_, dep_mem hq, rfl⟩)
end

/-- file f's JSRepr and its records -/
def JsP (W : World) (Jb Pb : Nat) (f : Fil) : Prop :=
  ∃ cs rb rcs, Blk W Jb 131 cs ∧ cs[20]? = some (.slice (some ⟨Pb, 0, none⟩) f.parts.length f.parts.length) ∧ cs[35]? = some (.slice (some ⟨rb, 0, none⟩) f.recs.length f.recs.length) ∧ cs[63]? = some (.int .u32 (ixv f.css)) ∧
    Blk W rb 147 rcs ∧ rcs.length = f.recs.length * 15 ∧ ∀ q, q < f.recs.length → RecAt rcs (q * 15) (rcd f.recs q)
structure MemL (w : World) (cb LB ob : Nat) (F : Ct) (g : Bool) (J EB PB : Nat → Nat) (d : Nd → Bool) : Prop where
  ctx : ∃ cs, Blk w cb 221 cs ∧ cs[10]? = some (.slice (some ⟨LB, 0, none⟩) F.length F.length) ∧ cs[0]? = some (.pointer (some ⟨ob, 0, none⟩))
  opt : ∃ cs, Blk w ob 195 cs ∧ cs[93]? = some (.bool g) ∧ cs[94]? = some (.bool true)
  files : ∃ cs, Blk w LB 60 cs ∧ cs.length = F.length * 24 ∧ ∀ i, i < F.length → FileAt cs (i * 24) (J i) (EB i) (fl F i) 4294967295 (d (.inl i))
  js : ∀ i, i < F.length → JsP w (J i) (PB i) (fl F i)
  parts : ∀ i, i < F.length → ∃ cs, Blk w (PB i) 83 cs ∧ cs.length = np F i * 11 ∧ One_ cs ∧ ∀ p, p < np F i → PartAt 0 w cs (p * 11) (pp F i p) (d (.inr (i, p)))
  ap : ∀ i k, i < F.length → k < F.length → PB i = PB k → i = k
  fit : Fits F
/-- the blocks that the marking may turn -/
def LBk (n LB : Nat) (PB : Nat → Nat) (b : Nat) : Prop := b = LB ∨ ∃ i, i < n ∧ PB i = b
section
variable {w w2 : World} {cb LB ob : Nat} {F : Ct} {g : Bool} {J EB PB : Nat → Nat} {d : Nd → Bool}
theorem JsP.turn {W W2 : World} {S : Nat → Prop} {Jb Pb : Nat} {f : Fil} (h : JsP W Jb Pb f) (k : Turn W W2 S) (hs : ∀ b t cs, Blk W b t cs → t = 131 ∨ t = 147 → ¬ S b) : JsP W2 Jb Pb f := by
  obtain ⟨cs, rb, rcs, h1, h2, h3, h4, h5, h6⟩ := h
  exact ⟨cs, rb, rcs, k.blk h1 (hs _ _ _ h1 (by simp)), h2, h3, h4, k.blk h5 (hs _ _ _ h5 (by simp)), h6⟩
theorem PartAt.turn {lo : Nat} {W W2 : World} {S : Nat → Prop} {cs : List Value} {o : Nat} {p : Prt} {live : Bool} (h : PartAt lo W cs o p live) (k : Turn W W2 S) (hs : ∀ b t cs, Blk W b t cs → t = 23 ∨ t = 150 → ¬ S b) : PartAt lo W2 cs o p live := by
  obtain ⟨ib, db, h1, h2, h3, h4, h5, h6, h7, h8, h9⟩ := h
  exact ⟨ib, db, h1, h2, h3, h4, h5, h6, h7, k.blk h8 (hs _ _ _ h8 (by simp)), k.blk h9 (hs _ _ _ h9 (by simp))⟩
theorem MemL.kept (h : MemL w cb LB ob F g J EB PB d) (k : Kept w w2) : MemL w2 cb LB ob F g J EB PB d := by
  obtain ⟨c1, h1, r1⟩ := h.ctx
  obtain ⟨c2, h2, r2⟩ := h.opt
  obtain ⟨c3, h3, r3⟩ := h.files
  refine ⟨⟨c1, h1.kept k, r1⟩, ⟨c2, h2.kept k, r2⟩, ⟨c3, h3.kept k, r3⟩, fun i hi => (h.js i hi).turn (Turn.of_kept k (fun _ => False)) (fun _ _ _ _ _ c => c), fun i hi => ?_, h.ap, h.fit⟩
  obtain ⟨c5, h5, l5, o5, r⟩ := h.parts i hi
  exact ⟨c5, h5.kept k, l5, o5, fun p hp => (r p hp).kept k⟩
theorem MemL.ctxc (h : MemL w cb LB ob F g J EB PB d) : w.cell? ⟨cb, 10, none⟩ = some (.slice (some ⟨LB, 0, none⟩) F.length F.length) ∧ w.cell? ⟨cb, 0, none⟩ = some (.pointer (some ⟨ob, 0, none⟩)) ∧ w.cell? ⟨ob, 93, none⟩ = some (.bool g) ∧ w.cell? ⟨ob, 94, none⟩ = some (.bool true) := by
  obtain ⟨c1, h1, r1, r2⟩ := h.ctx
  obtain ⟨c2, h2, r3, r4⟩ := h.opt
  exact ⟨by rw [h1.cell]; exact r1, by rw [h1.cell]; exact r2, by rw [h2.cell]; exact r3, by rw [h2.cell]; exact r4⟩
theorem MemL.file (h : MemL w cb LB ob F g J EB PB d) {i : Nat} (hi : i < F.length) : w.cell? ⟨LB, i * 24 + 2, none⟩ = some (.iface 132 (.pointer (some ⟨J i, 0, none⟩))) ∧ w.cell? ⟨LB, i * 24 + 7, none⟩ = some (.int .u8 (if (fl F i).side = true then 0 else 1)) ∧
    w.cell? ⟨LB, i * 24 + 22, none⟩ = some (.int .u8 0) ∧ w.cell? ⟨LB, i * 24 + 23, none⟩ = some (.bool (d (.inl i))) ∧ w.frozen? ⟨LB, i * 24 + 23, none⟩ = false := by
  obtain ⟨c, h1, _, h2⟩ := h.files
  obtain ⟨q1, q2, q3, q4, q5, q6⟩ := h2 i hi
  exact ⟨by rw [h1.cell]; exact q2, by rw [h1.cell]; exact q3, by rw [h1.cell]; exact q5, by rw [h1.cell]; exact q6, h1.free _⟩
theorem MemL.far (h : MemL w cb LB ob F g J EB PB d) {b t : Nat} {cs : List Value} (hb : Blk w b t cs) (h1 : t ≠ 60) (h2 : t ≠ 83) {W : World} (hT : Turn w W (LBk F.length LB PB)) : Blk W b t cs := by
  refine hT.blk hb ?_
  rintro (e1 | ⟨i, hi, e1⟩)
  · obtain ⟨c, q, _⟩ := h.files
    exact hb.apart q h1 e1
  · obtain ⟨c, q, _⟩ := h.parts i hi
    exact hb.apart q h2 e1.symm
/-- what the walk from file v reads, in every world that the marking leaves -/
theorem MemL.jsAll (h : MemL w cb LB ob F g J EB PB d) {v : Nat} (hv : v < F.length) : ∃ rb, ∀ W, Turn w W (LBk F.length LB PB) →
    W.cell? ⟨J v, 63, none⟩ = some (.int .u32 (ixv (fl F v).css)) ∧ W.cell? ⟨J v, 35, none⟩ = some (.slice (some ⟨rb, 0, none⟩) (fl F v).recs.length (fl F v).recs.length) ∧ W.cell? ⟨J v, 20, none⟩ = some (.slice (some ⟨PB v, 0, none⟩) (np F v) (np F v)) ∧
    ∀ q, q < (fl F v).recs.length → W.cell? ⟨rb, q * 15 + 10, none⟩ = some (.int .u32 (ixv (rcd (fl F v).recs q).tgt)) ∧ W.cell? ⟨rb, q * 15 + 12, none⟩ = some (.int .u16 (extv (rcd (fl F v).recs q).ext)) ∧ W.cell? ⟨rb, q * 15 + 14, none⟩ = some (.int .u8 ((rcd (fl F v).recs q).kind : Int)) := by
  obtain ⟨cs, rb, rcs, h1, h2, h3, h4, h5, _, h6⟩ := h.js v hv
  refine ⟨rb, fun W hT => ?_⟩
  have hJ := h.far h1 (by decide) (by decide) hT
  have hR := h.far h5 (by decide) (by decide) hT
  refine ⟨by rw [hJ.cell]; exact h4, by rw [hJ.cell]; exact h3, by rw [hJ.cell]; exact h2, fun q hq => ?_⟩
  obtain ⟨g1, g2, g3⟩ := h6 q hq
  exact ⟨by rw [hR.cell]; exact g1, by rw [hR.cell]; exact g2, by rw [hR.cell]; exact g3⟩
/-- part p of file v: its row, its live mark -/
theorem MemL.part (h : MemL w cb LB ob F g J EB PB d) {v p : Nat} (hv : v < F.length) (hp : p < np F v) : w.cell? ⟨PB v, p * 11 + 10, none⟩ = some (.bool (d (.inr (v, p)))) ∧ w.frozen? ⟨PB v, p * 11 + 10, none⟩ = false ∧
    ∃ ib db, (w.cell? ⟨PB v, p * 11 + 7, none⟩ = some (.slice (some ⟨db, 0, none⟩) (pp F v p).deps.length (pp F v p).deps.length)) ∧
    (∃ xs : List Value, xs.length = 11 ∧ w.rangeAt (PB v) (p * 11) xs ∧ xs.toArray.all (·.oneCell') = true ∧ xs[2]? = some (.slice (some ⟨ib, 0, none⟩) (pp F v p).recs.length (pp F v p).recs.length) ∧ xs[8]? = some (.bool (pp F v p).rem) ∧ xs[9]? = some (.bool (pp F v p).force)) ∧
    Blk w ib 23 (natCells (pp F v p).recs) ∧ Blk w db 150 (depCells (pp F v p).deps) := by
  obtain ⟨pcs, h1, h2, h3, h4⟩ := h.parts v hv
  obtain ⟨ib, db, g1, g2, g3, g4, g5, _, _, g8, g9⟩ := h4 p hp
  obtain ⟨xs, x1, x2, x3, x4⟩ := stretch h1 h3 (o := p * 11) (n := 11) (by have := slot_lt (size := 11) hp (j := 10) (by omega); omega)
  exact ⟨by rw [h1.cell]; exact g5, h1.free _, ib, db, by rw [h1.cell]; exact g2, ⟨xs, x1, x2, x3, (x4 2 (by omega)).trans g1, (x4 8 (by omega)).trans g3, (x4 9 (by omega)).trans g4⟩, g8, g9⟩
/-- file i marked -/
theorem MemL.markF (h : MemL w cb LB ob F g J EB PB d) {i : Nat} (hi : i < F.length) : MemL (w.setCell ⟨LB, i * 24 + 23, none⟩ (.bool true)) cb LB ob F g J EB PB (upd d (.inl i) true) := by
  obtain ⟨c1, h1, r1⟩ := h.ctx
  obtain ⟨c2, h2, r2⟩ := h.opt
  obtain ⟨c3, h3, l3, r3⟩ := h.files
  have hT : Turn w (w.setCell ⟨LB, i * 24 + 23, none⟩ (.bool true)) (fun b => b = LB) := (Turn.refl w (fun b => b = LB)).set (p := ⟨LB, i * 24 + 23, none⟩) rfl _
  have hlt := slot_lt (size := 24) hi (j := 23) (by omega)
  refine ⟨⟨c1, h1.far (h1.apart h3 (by decide)) _, r1⟩, ⟨c2, h2.far (h2.apart h3 (by decide)) _, r2⟩, ⟨_, h3.set _ _, by rw [List.length_set]; exact l3, fun j hj => ?_⟩, fun j hj => (h.js j hj).turn hT fun b t cs hb ht e => hb.apart h3 (by rcases ht with rfl | rfl <;> decide) e, fun j hj => ?_, h.ap, h.fit⟩
  · obtain ⟨q1, q2, q3, q4, q5, q6⟩ := r3 j hj
    refine ⟨by rw [List.getElem?_set_ne (by omega)]; exact q1, by rw [List.getElem?_set_ne (by omega)]; exact q2, by rw [List.getElem?_set_ne (by omega)]; exact q3, by rw [List.getElem?_set_ne (by omega)]; exact q4, by rw [List.getElem?_set_ne (by omega)]; exact q5, ?_⟩
    by_cases e : j = i
    · rw [e, List.getElem?_set_self (by omega), upd_same]
    · rw [List.getElem?_set_ne (by omega), upd_ne _ _ (fun c => e (Sum.inl.inj c))]; exact q6
  · obtain ⟨c5, h5, l5, o5, r⟩ := h.parts j hj
    refine ⟨c5, h5.far (h5.apart h3 (by decide)) _, l5, o5, fun p hp => ?_⟩
    rw [upd_ne _ _ (by simp)]
    exact (r p hp).turn hT fun b t cs hb ht e => hb.apart h3 (by rcases ht with rfl | rfl <;> decide) e
/-- part p of file i marked -/
theorem MemL.markP (h : MemL w cb LB ob F g J EB PB d) {i p : Nat} (hi : i < F.length) (hp : p < np F i) : MemL (w.setCell ⟨PB i, p * 11 + 10, none⟩ (.bool true)) cb LB ob F g J EB PB (upd d (.inr (i, p)) true) := by
  obtain ⟨c1, h1, r1⟩ := h.ctx
  obtain ⟨c2, h2, r2⟩ := h.opt
  obtain ⟨c3, h3, l3, r3⟩ := h.files
  obtain ⟨cp, hp1, lp, op, rp⟩ := h.parts i hi
  have hT : Turn w (w.setCell ⟨PB i, p * 11 + 10, none⟩ (.bool true)) (fun b => b = PB i) := (Turn.refl w (fun b => b = PB i)).set (p := ⟨PB i, p * 11 + 10, none⟩) rfl _
  have hlt := slot_lt (size := 11) hp (j := 10) (by omega)
  refine ⟨⟨c1, h1.far (h1.apart hp1 (by decide)) _, r1⟩, ⟨c2, h2.far (h2.apart hp1 (by decide)) _, r2⟩, ⟨c3, h3.far (h3.apart hp1 (by decide)) _, l3, fun j hj => ?_⟩, fun j hj => (h.js j hj).turn hT fun b t cs hb ht e => hb.apart hp1 (by rcases ht with rfl | rfl <;> decide) e, fun j hj => ?_, h.ap, h.fit⟩
  · rw [upd_ne _ _ (by simp)]
    exact r3 j hj
  · by_cases e : j = i
    · subst e
      refine ⟨_, hp1.set _ _, by rw [List.length_set]; exact lp, op.set rfl, fun q hq => ?_⟩
      obtain ⟨ib, db, a1, a2, a3, a4, a5, a6⟩ := (rp q hq).turn hT fun b t cs hb ht e => hb.apart hp1 (by rcases ht with rfl | rfl <;> decide) e
      have hq2 := slot_lt (size := 11) hq (j := 10) (by omega)
      refine ⟨ib, db, by rw [List.getElem?_set_ne (by omega)]; exact a1, by rw [List.getElem?_set_ne (by omega)]; exact a2, by rw [List.getElem?_set_ne (by omega)]; exact a3, by rw [List.getElem?_set_ne (by omega)]; exact a4, ?_, a6⟩
      by_cases e2 : q = p
      · subst e2
        rw [List.getElem?_set_self (by omega), upd_same]
      · rw [List.getElem?_set_ne (by omega), upd_ne _ _ (fun c => e2 (congrArg Prod.snd (Sum.inr.inj c)))]; exact a5
    · obtain ⟨c5, h5, l5, o5, r⟩ := h.parts j hj
      refine ⟨c5, h5.far (fun c => e (h.ap j i hj hi c)) _, l5, o5, fun q hq => ?_⟩
      rw [upd_ne _ _ (fun c => e (congrArg Prod.fst (Sum.inr.inj c)))]
      exact (r q hq).turn hT fun b t cs hb ht e => hb.apart hp1 (by rcases ht with rfl | rfl <;> decide) e
end
end Go.Proofs.Ytgnccfofhcbjjaa.lk
