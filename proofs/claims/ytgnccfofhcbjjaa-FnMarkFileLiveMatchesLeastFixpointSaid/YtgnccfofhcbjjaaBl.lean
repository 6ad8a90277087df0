/-
  What lkB1Build lays in memory over this seat's program.
  Conditions: none.
-/
import Derived.Test.YtgnccfofhcbjjaaBf
namespace Go.Proofs.Ytgnccfofhcbjjaa.lk
open Go.ChangeShapes Go.WideShapes Go.ChangeAt Go.RowKit
open kit dfs

def ixv (t : Int) : Int := if 0 ≤ t then 4294967295 - t else 0
def extv (b : Bool) : Int := if b = true then 1024 else 0
def RecAt (cs : List Value) (o : Nat) (r : Rec) : Prop := cs[o + 10]? = some (.int .u32 (ixv r.tgt)) ∧ cs[o + 12]? = some (.int .u16 (extv r.ext)) ∧ cs[o + 14]? = some (.int .u8 (r.kind : Int))
def RecZ (cs : List Value) (o : Nat) : Prop := cs[o + 10]? = some (.int .u32 0) ∧ cs[o + 12]? = some (.int .u16 0) ∧ cs[o + 14]? = some (.int .u8 0)
def One_ (cs : List Value) : Prop := ∀ v ∈ cs, v.oneCell' = true
theorem One_.set {cs : List Value} {i : Nat} {u : Value} (h : One_ cs) (hu : u.oneCell' = true) : One_ (cs.set i u) := fun v hv => by
  rcases List.mem_or_eq_of_mem_set hv with hv | hv
  · exact h v hv
  · rw [hv]; exact hu
def natCells (X : List Nat) : List Value := X.map fun (x : Nat) => Value.int .u32 (x : Int)
def depCells (l : List (Nat × Nat)) : List Value := l.flatMap fun x => [.int .u32 (x.1 : Int), .int .u32 (x.2 : Int)]
theorem depCells_at (l : List (Nat × Nat)) (k : Nat) (hk : k < l.length) : (depCells l)[k * 2]? = some (.int .u32 ((lk.dep l k).1 : Int)) ∧ (depCells l)[k * 2 + 1]? = some (.int .u32 ((lk.dep l k).2 : Int)) := by
  induction l generalizing k with
  | nil => simp at hk
  | cons x r ih =>
    cases k with
    | zero => exact ⟨rfl, rfl⟩
    | succ k =>
      have := ih k (by simpa using hk)
      have e : depCells (x :: r) = .int .u32 (x.1 : Int) :: .int .u32 (x.2 : Int) :: depCells r := rfl
      rw [e, show (k + 1) * 2 = k * 2 + 1 + 1 by omega]
      simpa [lk.dep] using this
theorem depCells_len (l : List (Nat × Nat)) : (depCells l).length = l.length * 2 := by
  induction l with
  | nil => rfl
  | cons x r ih =>
    have e : depCells (x :: r) = .int .u32 (x.1 : Int) :: .int .u32 (x.2 : Int) :: depCells r := rfl
    rw [e]; simp [ih]; omega
theorem natCells_at (X : List Nat) {k : Nat} (hk : k < X.length) : (natCells X)[k]? = some (.int .u32 (nat X k : Int)) := by simp [natCells, nat, hk]
section
variable {w W : World}
theorem nats_blk {X : List Nat} (h : Cp w W 23 1 X.length (natV X) X.length) : Blk W w.heap.size 23 (natCells X) := by
  obtain ⟨cs, hb, hl, hc⟩ := h.row
  have e : cs = natCells X := by
    apply List.ext_getElem?
    intro i
    by_cases hi : i < X.length
    · have := hc i hi 0 (by omega)
      rw [Nat.mul_one, Nat.add_zero] at this
      rw [this, natCells_at X hi]
      rfl
    · rw [List.getElem?_eq_none (by omega), List.getElem?_eq_none (by simp [natCells]; omega)]
  rw [← e]; exact hb
theorem deps_blk {X : List (Nat × Nat)} (h : Cp w W 150 2 X.length (depV X) X.length) : Blk W w.heap.size 150 (depCells X) := by
  obtain ⟨cs, hb, hl, hc⟩ := h.row
  have e : cs = depCells X := by
    apply List.ext_getElem?
    intro i
    by_cases hi : i < X.length * 2
    · have hq : i / 2 < X.length := by omega
      obtain ⟨b1, b2⟩ := depCells_at X _ hq
      have a1 := hc (i / 2) hq 0 (by omega)
      have a2 := hc (i / 2) hq 1 (by omega)
      rw [Nat.add_zero] at a1
      rcases Nat.mod_two_eq_zero_or_one i with e | e
      · rw [show i = i / 2 * 2 by omega, a1, b1]; rfl
      · rw [show i = i / 2 * 2 + 1 by omega, a2, b2]; rfl
    · rw [List.getElem?_eq_none (by omega), List.getElem?_eq_none (by rw [depCells_len]; omega)]
  rw [← e]; exact hb
end

/-- the import records, q of them laid -/
structure Rq (w W : World) (R : List Rec) (q : Nat) : Prop where
  kept : Kept w W
  row : ∃ cs, Blk W w.heap.size 147 cs ∧ cs.length = R.length * 15 ∧ One_ cs ∧ (∀ i, i < q → RecAt cs (i * 15) (rcd R i)) ∧ ∀ i, q ≤ i → i < R.length → RecZ cs (i * 15)
/-- record q's cells: its source index, flags, kind -/
structure Rr (w W : World) (R : List Rec) (q : Nat) (s f k : Value) : Prop where
  kept : Kept w W
  row : ∃ cs, Blk W w.heap.size 147 cs ∧ cs.length = R.length * 15 ∧ One_ cs ∧ (∀ i, i < q → RecAt cs (i * 15) (rcd R i)) ∧ (∀ i, q < i → i < R.length → RecZ cs (i * 15)) ∧ cs[q * 15 + 10]? = some s ∧ cs[q * 15 + 12]? = some f ∧ cs[q * 15 + 14]? = some k
section
variable {w W W2 : World} {R : List Rec} {q : Nat} {s f k : Value}
theorem Rq.open (h : Rq w W R q) (hq : q < R.length) : Rr w W R q (.int .u32 0) (.int .u16 0) (.int .u8 0) := by
  obtain ⟨cs, hb, hl, ho, hc, hz⟩ := h.row
  exact ⟨h.kept, cs, hb, hl, ho, hc, fun i hi hn => hz i (by omega) hn, hz q (Nat.le_refl _) hq⟩
theorem Rq.kept2 (h : Rq w W R q) (kk : Kept W W2) : Rq w W2 R q := by
  obtain ⟨cs, hb, r⟩ := h.row
  exact ⟨h.kept.trans kk, cs, hb.kept kk, r⟩
theorem Rr.kept2 (h : Rr w W R q s f k) (kk : Kept W W2) : Rr w W2 R q s f k := by
  obtain ⟨cs, hb, r⟩ := h.row
  exact ⟨h.kept.trans kk, cs, hb.kept kk, r⟩
theorem Rr.has (h : Rr w W R q s f k) (hq : q < R.length) {o : Nat} (ho : o < 15) : ∃ v, W.cell? ⟨w.heap.size, q * 15 + o, none⟩ = some v ∧ W.frozen? ⟨w.heap.size, q * 15 + o, none⟩ = false := by
  obtain ⟨cs, hb, hl, _⟩ := h.row
  exact hb.has (by rw [hl]; exact slot_lt hq ho)
theorem Rr.set10 (h : Rr w W R q s f k) (hq : q < R.length) (u : Value) (hu : u.oneCell' = true) : Rr w (W.setCell ⟨w.heap.size, q * 15 + 10, none⟩ u) R q u f k := by
  obtain ⟨cs, hb, hl, ho, hc, hz, r1, r2, r3⟩ := h.row
  refine ⟨h.kept.setCell (Nat.le_refl _) _, _, hb.set _ _, by simpa using hl, ho.set hu, fun i hi => ?_, fun i hi hn => ?_, by rw [List.getElem?_set_self (by omega)], by rw [List.getElem?_set_ne (by omega)]; exact r2, by rw [List.getElem?_set_ne (by omega)]; exact r3⟩
  · obtain ⟨a1, a2, a3⟩ := hc i hi
    exact ⟨by rw [List.getElem?_set_ne (by omega)]; exact a1, by rw [List.getElem?_set_ne (by omega)]; exact a2, by rw [List.getElem?_set_ne (by omega)]; exact a3⟩
  · obtain ⟨a1, a2, a3⟩ := hz i hi hn
    exact ⟨by rw [List.getElem?_set_ne (by omega)]; exact a1, by rw [List.getElem?_set_ne (by omega)]; exact a2, by rw [List.getElem?_set_ne (by omega)]; exact a3⟩
theorem Rr.set12 (h : Rr w W R q s f k) (hq : q < R.length) (u : Value) (hu : u.oneCell' = true) : Rr w (W.setCell ⟨w.heap.size, q * 15 + 12, none⟩ u) R q s u k := by
  obtain ⟨cs, hb, hl, ho, hc, hz, r1, r2, r3⟩ := h.row
  refine ⟨h.kept.setCell (Nat.le_refl _) _, _, hb.set _ _, by simpa using hl, ho.set hu, fun i hi => ?_, fun i hi hn => ?_, by rw [List.getElem?_set_ne (by omega)]; exact r1, by rw [List.getElem?_set_self (by omega)], by rw [List.getElem?_set_ne (by omega)]; exact r3⟩
  · obtain ⟨a1, a2, a3⟩ := hc i hi
    exact ⟨by rw [List.getElem?_set_ne (by omega)]; exact a1, by rw [List.getElem?_set_ne (by omega)]; exact a2, by rw [List.getElem?_set_ne (by omega)]; exact a3⟩
  · obtain ⟨a1, a2, a3⟩ := hz i hi hn
    exact ⟨by rw [List.getElem?_set_ne (by omega)]; exact a1, by rw [List.getElem?_set_ne (by omega)]; exact a2, by rw [List.getElem?_set_ne (by omega)]; exact a3⟩
theorem Rr.set14 (h : Rr w W R q s f k) (hq : q < R.length) (u : Value) (hu : u.oneCell' = true) : Rr w (W.setCell ⟨w.heap.size, q * 15 + 14, none⟩ u) R q s f u := by
  obtain ⟨cs, hb, hl, ho, hc, hz, r1, r2, r3⟩ := h.row
  refine ⟨h.kept.setCell (Nat.le_refl _) _, _, hb.set _ _, by simpa using hl, ho.set hu, fun i hi => ?_, fun i hi hn => ?_, by rw [List.getElem?_set_ne (by omega)]; exact r1, by rw [List.getElem?_set_ne (by omega)]; exact r2, by rw [List.getElem?_set_self (by omega)]⟩
  · obtain ⟨a1, a2, a3⟩ := hc i hi
    exact ⟨by rw [List.getElem?_set_ne (by omega)]; exact a1, by rw [List.getElem?_set_ne (by omega)]; exact a2, by rw [List.getElem?_set_ne (by omega)]; exact a3⟩
  · obtain ⟨a1, a2, a3⟩ := hz i hi hn
    exact ⟨by rw [List.getElem?_set_ne (by omega)]; exact a1, by rw [List.getElem?_set_ne (by omega)]; exact a2, by rw [List.getElem?_set_ne (by omega)]; exact a3⟩
theorem Rr.done (h : Rr w W R q (.int .u32 (ixv (rcd R q).tgt)) (.int .u16 (extv (rcd R q).ext)) (.int .u8 ((rcd R q).kind : Int))) : Rq w W R (q + 1) := by
  obtain ⟨cs, hb, hl, ho, hc, hz, r1, r2, r3⟩ := h.row
  refine ⟨h.kept, cs, hb, hl, ho, fun i hi => ?_, fun i hi hn => hz i (by omega) hn⟩
  by_cases e : i = q
  · rw [e]; exact ⟨r1, r2, r3⟩
  · exact hc i (by omega)
end

/-- a part in memory -/
def PartAt (lo : Nat) (W : World) (cs : List Value) (o : Nat) (p : Prt) (live : Bool) : Prop :=
  ∃ ib db, cs[o + 2]? = some (.slice (some ⟨ib, 0, none⟩) p.recs.length p.recs.length) ∧ cs[o + 7]? = some (.slice (some ⟨db, 0, none⟩) p.deps.length p.deps.length) ∧ cs[o + 8]? = some (.bool p.rem) ∧ cs[o + 9]? = some (.bool p.force) ∧ cs[o + 10]? = some (.bool live) ∧
    lo ≤ ib ∧ lo ≤ db ∧ Blk W ib 23 (natCells p.recs) ∧ Blk W db 150 (depCells p.deps)
section
variable {lo : Nat} {W W2 : World} {cs cs2 : List Value} {o : Nat} {p : Prt} {live : Bool}
theorem PartAt.above (h : PartAt lo W cs o p live) (k : Above lo W W2) : PartAt lo W2 cs o p live := by
  obtain ⟨ib, db, h1, h2, h3, h4, h5, h6, h7, h8, h9⟩ := h
  exact ⟨ib, db, h1, h2, h3, h4, h5, h6, h7, k.blk h8 h6, k.blk h9 h7⟩
theorem PartAt.mono {lo2 : Nat} (h : PartAt lo W cs o p live) (hl : lo2 ≤ lo) : PartAt lo2 W cs o p live := by
  obtain ⟨ib, db, h1, h2, h3, h4, h5, h6, h7, r⟩ := h
  exact ⟨ib, db, h1, h2, h3, h4, h5, Nat.le_trans hl h6, Nat.le_trans hl h7, r⟩
theorem PartAt.cells (h : PartAt lo W cs o p live) (he : ∀ j, j < 11 → cs2[o + j]? = cs[o + j]?) : PartAt lo W cs2 o p live := by
  obtain ⟨ib, db, h1, h2, h3, h4, h5, r⟩ := h
  exact ⟨ib, db, (he 2 (by omega)).trans h1, (he 7 (by omega)).trans h2, (he 8 (by omega)).trans h3, (he 9 (by omega)).trans h4, (he 10 (by omega)).trans h5, r⟩
end
structure Pq (w W : World) (P : List Prt) (j : Nat) : Prop where
  kept : Kept w W
  row : ∃ cs, Blk W w.heap.size 83 cs ∧ cs.length = P.length * 11 ∧ One_ cs ∧ (∀ i, i < j → PartAt (w.heap.size + 1) W cs (i * 11) (prt P i) false) ∧ ∀ i, j ≤ i → i < P.length → cs[i * 11 + 10]? = some (.bool false)
def laidP (W : World) (g j ib db : Nat) (p : Prt) : World :=
  (((W.setCell ⟨g, j * 11 + 2, none⟩ (.slice (some ⟨ib, 0, none⟩) p.recs.length p.recs.length)).setCell ⟨g, j * 11 + 7, none⟩ (.slice (some ⟨db, 0, none⟩) p.deps.length p.deps.length)).setCell ⟨g, j * 11 + 8, none⟩ (.bool p.rem)).setCell ⟨g, j * 11 + 9, none⟩ (.bool p.force)
section
variable {w W W2 : World} {P : List Prt} {j : Nat}
theorem Pq.kept2 (h : Pq w W P j) (kk : Kept W W2) : Pq w W2 P j := by
  obtain ⟨cs, hb, hl, ho, hc, hz⟩ := h.row
  exact ⟨h.kept.trans kk, cs, hb.kept kk, hl, ho, fun i hi => (hc i hi).above (Above.of_kept kk), hz⟩
theorem Pq.has (h : Pq w W P j) (hq : j < P.length) {o : Nat} (ho : o < 11) : ∃ v, W.cell? ⟨w.heap.size, j * 11 + o, none⟩ = some v ∧ W.frozen? ⟨w.heap.size, j * 11 + o, none⟩ = false := by
  obtain ⟨cs, hb, hl, _⟩ := h.row
  exact hb.has (by rw [hl]; exact slot_lt hq ho)
theorem Pq.step (h : Pq w W P j) (hj : j < P.length) {ib db : Nat} (hi : w.heap.size + 1 ≤ ib) (hd : w.heap.size + 1 ≤ db) (b1 : Blk W ib 23 (natCells (prt P j).recs)) (b2 : Blk W db 150 (depCells (prt P j).deps)) : Pq w (laidP W w.heap.size j ib db (prt P j)) P (j + 1) := by
  obtain ⟨cs, hb, hl, ho, hc, hz⟩ := h.row
  have hA : Above (w.heap.size + 1) W (laidP W w.heap.size j ib db (prt P j)) :=
    (((Above.set _ (Nat.lt_succ_self _) _ _).trans (Above.set _ (Nat.lt_succ_self _) _ _)).trans (Above.set _ (Nat.lt_succ_self _) _ _)).trans (Above.set _ (Nat.lt_succ_self _) _ _)
  refine ⟨(((h.kept.setCell (Nat.le_refl _) _).setCell (Nat.le_refl _) _).setCell (Nat.le_refl _) _).setCell (Nat.le_refl _) _, _, (((hb.set _ _).set _ _).set _ _).set _ _, by simpa using hl, (((ho.set rfl).set rfl).set rfl).set rfl, fun i hi2 => ?_, fun i hi2 hn => ?_⟩
  · by_cases e : i = j
    · subst e
      refine ⟨ib, db, ?_, ?_, ?_, ?_, ?_, hi, hd, hA.blk b1 hi, hA.blk b2 hd⟩
      · rw [List.getElem?_set_ne (by omega), List.getElem?_set_ne (by omega), List.getElem?_set_ne (by omega), List.getElem?_set_self (by omega)]
      · rw [List.getElem?_set_ne (by omega), List.getElem?_set_ne (by omega), List.getElem?_set_self (by simp; omega)]
      · rw [List.getElem?_set_ne (by omega), List.getElem?_set_self (by simp; omega)]
      · rw [List.getElem?_set_self (by simp; omega)]
      · rw [List.getElem?_set_ne (by omega), List.getElem?_set_ne (by omega), List.getElem?_set_ne (by omega), List.getElem?_set_ne (by omega)]; exact hz i (Nat.le_refl _) hj
    · refine ((hc i (by omega)).above hA).cells fun o ho => ?_
      rw [List.getElem?_set_ne (by omega), List.getElem?_set_ne (by omega), List.getElem?_set_ne (by omega), List.getElem?_set_ne (by omega)]
  · rw [List.getElem?_set_ne (by omega), List.getElem?_set_ne (by omega), List.getElem?_set_ne (by omega), List.getElem?_set_ne (by omega)]
    exact hz i (by omega) hn
end

/-- file f: its JSRepr in block Jb, its parts in block Pb -/
def OneJ (lo : Nat) (W : World) (Jb Pb : Nat) (f : Fil) : Prop :=
  (lo ≤ Jb ∧ ∃ cs rb rcs, Blk W Jb 131 cs ∧ cs[20]? = some (.slice (some ⟨Pb, 0, none⟩) f.parts.length f.parts.length) ∧ cs[35]? = some (.slice (some ⟨rb, 0, none⟩) f.recs.length f.recs.length) ∧ cs[63]? = some (.int .u32 (ixv f.css)) ∧
    lo ≤ rb ∧ Blk W rb 147 rcs ∧ rcs.length = f.recs.length * 15 ∧ One_ rcs ∧ ∀ q, q < f.recs.length → RecAt rcs (q * 15) (rcd f.recs q)) ∧
  (lo ≤ Pb ∧ ∃ cs, Blk W Pb 83 cs ∧ cs.length = f.parts.length * 11 ∧ One_ cs ∧ ∀ p, p < f.parts.length → PartAt lo W cs (p * 11) (prt f.parts p) false)
theorem OneJ.above {lo : Nat} {W W2 : World} {Jb Pb : Nat} {f : Fil} (h : OneJ lo W Jb Pb f) (k : Above lo W W2) : OneJ lo W2 Jb Pb f := by
  obtain ⟨⟨l1, cs, rb, rcs, h1, h2, h3, h4, l2, h5, h6⟩, l3, ps, h7, h8, h9, h10⟩ := h
  exact ⟨⟨l1, cs, rb, rcs, k.blk h1 l1, h2, h3, h4, l2, k.blk h5 l2, h6⟩, l3, ps, k.blk h7 l3, h8, h9, fun p hp => (h10 p hp).above k⟩
theorem OneJ.lt {lo : Nat} {W : World} {Jb Pb : Nat} {f : Fil} (h : OneJ lo W Jb Pb f) : Pb < W.heap.size := by
  obtain ⟨_, _, ps, h7, _⟩ := h
  exact h7.lt
theorem oneJ_of {lo : Nat} {w1 w2 W Wj : World} {Jb : Nat} {f : Fil} {cs : List Value} (hr : Rq w1 w2 f.recs f.recs.length) (hp : Pq w2 W f.parts f.parts.length) (kk : Kept W Wj) (hb : Blk Wj Jb 131 cs) (lj : lo ≤ Jb) (l1 : lo ≤ w1.heap.size)
    (c1 : cs[20]? = some (.slice (some ⟨w2.heap.size, 0, none⟩) f.parts.length f.parts.length)) (c2 : cs[35]? = some (.slice (some ⟨w1.heap.size, 0, none⟩) f.recs.length f.recs.length)) (c3 : cs[63]? = some (.int .u32 (ixv f.css))) : OneJ lo Wj Jb w2.heap.size f := by
  have hs := hr.kept.size
  obtain ⟨rs, b1, r1, r2, r3, _⟩ := (hr.kept2 (hp.kept.trans kk)).row
  obtain ⟨ps, b2, p1, p2, p3, _⟩ := (hp.kept2 kk).row
  exact ⟨⟨lj, cs, _, rs, hb, c1, c2, c3, l1, b1, r1, r2, r3⟩, Nat.le_trans l1 hs, ps, b2, p1, p2, fun p hp => (p3 p hp).mono (by omega)⟩

/-- the cells of a linker file -/
def FileAt (cs : List Value) (o jb eb : Nat) (f : Fil) (dist : Int) (live : Bool) : Prop :=
  cs[o]? = some (.slice (some ⟨eb, 0, none⟩) 32 32) ∧ cs[o + 2]? = some (.iface 132 (.pointer (some ⟨jb, 0, none⟩))) ∧ cs[o + 7]? = some (.int .u8 (if f.side = true then 0 else 1)) ∧ cs[o + 20]? = some (.int .u32 dist) ∧ cs[o + 22]? = some (.int .u8 0) ∧ cs[o + 23]? = some (.bool live)
theorem FileAt.cells {cs cs2 : List Value} {o jb eb : Nat} {f : Fil} {dist : Int} {live : Bool} (h : FileAt cs o jb eb f dist live) (he : ∀ j, j < 24 → cs2[o + j]? = cs[o + j]?) : FileAt cs2 o jb eb f dist live := by
  obtain ⟨h1, h2, h3, h4, h5, h6⟩ := h
  exact ⟨(he 0 (by omega)).trans h1, (he 2 (by omega)).trans h2, (he 7 (by omega)).trans h3, (he 20 (by omega)).trans h4, (he 22 (by omega)).trans h5, (he 23 (by omega)).trans h6⟩
structure Bd (w W : World) (F : Ct) (u : Bool) (i : Nat) (J EB PB : Nat → Nat) : Prop where
  kept : Kept w W
  files : ∃ cs, Blk W w.heap.size 60 cs ∧ cs.length = F.length * 24 ∧ ∀ k, k < i → FileAt cs (k * 24) (J k) (EB k) (fl F k) 4294967295 (u && (fl F k).live)
  reprs : ∃ cs, Blk W (w.heap.size + 1) 132 cs ∧ cs.length = F.length ∧ ∀ k, k < i → cs[k]? = some (.pointer (some ⟨J k, 0, none⟩))
  one : ∀ k, k < i → OneJ (w.heap.size + 2) W (J k) (PB k) (fl F k) ∧ w.heap.size + 2 ≤ EB k ∧ Blk W (EB k) 5 (bitCells fun _ => false)
  ap : ∀ k l, k < i → l < i → (EB k = EB l → k = l) ∧ (PB k = PB l → k = l)
/-- the same, the file i laid but for some of its cells -/
structure Bm (w W : World) (F : Ct) (u : Bool) (i : Nat) (J EB PB : Nat → Nat) (jb pb : Nat) (e0 e7 e20 e23 : Value) : Prop where
  kept : Kept w W
  files : ∃ cs, Blk W w.heap.size 60 cs ∧ cs.length = F.length * 24 ∧ (∀ k, k < i → FileAt cs (k * 24) (J k) (EB k) (fl F k) 4294967295 (u && (fl F k).live)) ∧
    cs[i * 24]? = some e0 ∧ cs[i * 24 + 2]? = some (.iface 132 (.pointer (some ⟨jb, 0, none⟩))) ∧ cs[i * 24 + 7]? = some e7 ∧ cs[i * 24 + 20]? = some e20 ∧ cs[i * 24 + 22]? = some (.int .u8 0) ∧ cs[i * 24 + 23]? = some e23
  reprs : ∃ cs, Blk W (w.heap.size + 1) 132 cs ∧ cs.length = F.length ∧ (∀ k, k < i → cs[k]? = some (.pointer (some ⟨J k, 0, none⟩))) ∧ cs[i]? = some (.pointer (some ⟨jb, 0, none⟩))
  one : ∀ k, k < i → OneJ (w.heap.size + 2) W (J k) (PB k) (fl F k) ∧ w.heap.size + 2 ≤ EB k ∧ Blk W (EB k) 5 (bitCells fun _ => false)
  ap : ∀ k l, k < i → l < i → (EB k = EB l → k = l) ∧ (PB k = PB l → k = l)
  new : OneJ (w.heap.size + 2) W jb pb (fl F i)
  far : ∀ k, k < i → PB k ≠ pb
theorem Above.setCells {lo g : Nat} (hg : g < lo) : ∀ (vs : List Value) (o : Nat) (W : World), Above lo W (W.setCells g o vs) := by
  intro vs
  induction vs with
  | nil => intro o W; exact ⟨Nat.le_refl _, fun _ _ _ => rfl⟩
  | cons v r ih => intro o W; exact (Above.set W hg o v).trans (ih (o + 1) _)
section
variable {w W W2 wB : World} {F : Ct} {u : Bool} {i : Nat} {J EB PB : Nat → Nat} {jb pb eb : Nat} {e0 e7 e20 e23 : Value}
theorem Bd.start {C1 C2 : List Value} (h1 : C1.length = F.length * 24) (h2 : C2.length = F.length) : Bd w ((w.alloc (.cells C1.toArray 60)).alloc (.cells C2.toArray 132)) F u 0 (fun _ => 0) (fun _ => 0) (fun _ => 0) :=
  ⟨((Kept.refl _).alloc _).alloc _, ⟨C1, (Blk.new w 60 C1).alloc _, h1, fun k hk => absurd hk (by omega)⟩, ⟨C2, by have := Blk.new (w.alloc (.cells C1.toArray 60)) 132 C2; simpa using this, h2, fun k hk => absurd hk (by omega)⟩, fun k hk => absurd hk (by omega), fun k l hk => absurd hk (by omega)⟩
theorem Bd.size (h : Bd w W F u i J EB PB) : w.heap.size + 2 ≤ W.heap.size := by
  obtain ⟨cs, hb, _⟩ := h.reprs
  exact hb.lt
theorem Bd.kept2 (h : Bd w W F u i J EB PB) (k : Kept W W2) : Bd w W2 F u i J EB PB := by
  obtain ⟨c1, h1, r1⟩ := h.files
  obtain ⟨c2, h2, r2⟩ := h.reprs
  exact ⟨h.kept.trans k, ⟨c1, h1.kept k, r1⟩, ⟨c2, h2.kept k, r2⟩, fun l hl => ⟨(h.one l hl).1.above (Above.of_kept k), (h.one l hl).2.1, (h.one l hl).2.2.kept k⟩, h.ap⟩
theorem Bd.mid {A : Array Value} {wo : World} (h0 : Bd w wo F u i J EB PB) (kk : Kept wo W) (hn : OneJ (w.heap.size + 2) W jb pb (fl F i)) (hp : wo.heap.size ≤ pb) (hi : i < F.length) (kb : Kept (W.setCell ⟨w.heap.size + 1, i, none⟩ (.pointer (some ⟨jb, 0, none⟩))) wB) (hA : FileV jb A) :
    ∃ e0 e20 e23, Bm w (wB.setCells w.heap.size (i * 24) A.toList) F u i J EB PB jb pb e0 (.int .u8 0) e20 e23 := by
  have hfar : ∀ k, k < i → PB k ≠ pb := fun k hk e => by have := (h0.one k hk).1.lt; omega
  have h := h0.kept2 kk
  obtain ⟨c1, f1, fl1, fh⟩ := h.files
  obtain ⟨c2, p1, pl, ph⟩ := h.reprs
  have hA24 : A.toList.length = 24 := by simpa using hA.1
  have hr : i * 24 + 24 ≤ F.length * 24 := by have := Nat.mul_le_mul_right 24 (show i + 1 ≤ F.length by omega); omega
  have q1 : Blk wB w.heap.size 60 c1 := (f1.far (p := ⟨w.heap.size + 1, i, none⟩) (by show w.heap.size ≠ w.heap.size + 1; omega) _).kept kb
  have q2 : Blk wB (w.heap.size + 1) 132 (c2.set i (.pointer (some ⟨jb, 0, none⟩))) := (p1.set i _).kept kb
  have hA1 : Above (w.heap.size + 2) W wB := (Above.set W (show w.heap.size + 1 < w.heap.size + 2 by omega) i _).trans (Above.of_kept kb)
  have hA2 : Above (w.heap.size + 2) W (wB.setCells w.heap.size (i * 24) A.toList) := hA1.trans (Above.setCells (by omega) _ _ _)
  obtain ⟨cs2, t2, l2, a2, b2⟩ := Blk.setCells A.toList (i * 24) wB c1 q1 (by rw [hA24, fl1]; exact hr)
  have get : ∀ {o : Nat} {v : Value}, o < 24 → A[o]? = some v → cs2[i * 24 + o]? = some v := fun {o v} ho hv => by
    rw [b2 o (by rw [hA24]; exact ho)]; simpa using hv
  obtain ⟨v0, hv0⟩ : ∃ v, A[0]? = some v := ⟨_, Array.getElem?_eq_getElem (by rw [hA.1]; omega)⟩
  obtain ⟨v20, hv20⟩ : ∃ v, A[20]? = some v := ⟨_, Array.getElem?_eq_getElem (by rw [hA.1]; omega)⟩
  obtain ⟨v23, hv23⟩ : ∃ v, A[23]? = some v := ⟨_, Array.getElem?_eq_getElem (by rw [hA.1]; omega)⟩
  refine ⟨v0, v20, v23, Kept.setCells _ _ _ ((h.kept.setCell (p := ⟨w.heap.size + 1, i, none⟩) (Nat.le_succ _) _).trans kb) (Nat.le_refl _), ⟨cs2, t2, l2.trans fl1, fun k hk => (fh k hk).cells fun j hj => a2 _ (by omega), get (by omega) hv0, get (by omega) hA.2.1, get (by omega) hA.2.2.1, get (by omega) hv20, get (by omega) hA.2.2.2.2, get (by omega) hv23⟩,
    ⟨_, Blk.setCellsFar (by omega) _ _ _ _ q2, by rw [List.length_set]; exact pl, fun k hk => by rw [List.getElem?_set_ne (by omega)]; exact ph k hk, by rw [List.getElem?_set_self (by omega)]⟩, fun k hk => ⟨(h.one k hk).1.above hA2, (h.one k hk).2.1, hA2.blk (h.one k hk).2.2 (h.one k hk).2.1⟩, h.ap, hn.above hA2, hfar⟩
theorem Bm.kept2 (h : Bm w W F u i J EB PB jb pb e0 e7 e20 e23) (k : Kept W W2) : Bm w W2 F u i J EB PB jb pb e0 e7 e20 e23 := by
  obtain ⟨c1, h1, r1⟩ := h.files
  obtain ⟨c2, h2, r2⟩ := h.reprs
  exact ⟨h.kept.trans k, ⟨c1, h1.kept k, r1⟩, ⟨c2, h2.kept k, r2⟩, fun l hl => ⟨(h.one l hl).1.above (Above.of_kept k), (h.one l hl).2.1, (h.one l hl).2.2.kept k⟩, h.ap, h.new.above (Above.of_kept k), h.far⟩
theorem Bm.has (h : Bm w W F u i J EB PB jb pb e0 e7 e20 e23) (hi : i < F.length) {o : Nat} (ho : o < 24) : ∃ v, W.cell? ⟨w.heap.size, i * 24 + o, none⟩ = some v ∧ W.frozen? ⟨w.heap.size, i * 24 + o, none⟩ = false := by
  obtain ⟨cs, hb, hl, _⟩ := h.files
  exact hb.has (by rw [hl]; exact slot_lt hi ho)
theorem Bm.row (h : Bm w W F u i J EB PB jb pb e0 e7 e20 e23) (hi : i < F.length) (o : Nat) (ho : o < 24) (v : Value) : Bm w (W.setCell ⟨w.heap.size, i * 24 + o, none⟩ v) F u i J EB PB jb pb (if o = 0 then v else e0) (if o = 7 then v else e7) (if o = 20 then v else e20) (if o = 23 then v else e23) ∨ o = 2 ∨ o = 22 := by
  by_cases e2 : o = 2
  · exact .inr (.inl e2)
  by_cases e22 : o = 22
  · exact .inr (.inr e22)
  obtain ⟨c1, h1, hl, hf, r1, r2, r3, r4, r5, r6⟩ := h.files
  obtain ⟨c2, h2, s⟩ := h.reprs
  have hA : Above (w.heap.size + 2) W (W.setCell ⟨w.heap.size, i * 24 + o, none⟩ v) := Above.set W (show w.heap.size < w.heap.size + 2 by omega) _ _
  have hlt : i * 24 + o < c1.length := by rw [hl]; exact slot_lt hi ho
  refine .inl ⟨h.kept.setCell (Nat.le_refl _) _, ⟨_, h1.set _ _, by simpa using hl, fun k hk => (hf k hk).cells fun j hj => by rw [List.getElem?_set_ne (by omega)], ?_, ?_, ?_, ?_, ?_, ?_⟩, ⟨c2, h2.far (p := ⟨w.heap.size, i * 24 + o, none⟩) (by show w.heap.size + 1 ≠ w.heap.size; omega) _, s⟩, fun l hl => ⟨(h.one l hl).1.above hA, (h.one l hl).2.1, hA.blk (h.one l hl).2.2 (h.one l hl).2.1⟩, h.ap, h.new.above hA, h.far⟩
  · split
    · rename_i e; subst e; rw [Nat.add_zero, List.getElem?_set_self (by simpa using hlt)]
    · rw [List.getElem?_set_ne (by omega)]; exact r1
  · rw [List.getElem?_set_ne (by omega)]; exact r2
  · split
    · rename_i e; subst e; rw [List.getElem?_set_self hlt]
    · rw [List.getElem?_set_ne (by omega)]; exact r3
  · split
    · rename_i e; subst e; rw [List.getElem?_set_self hlt]
    · rw [List.getElem?_set_ne (by omega)]; exact r4
  · rw [List.getElem?_set_ne (by omega)]; exact r5
  · split
    · rename_i e; subst e; rw [List.getElem?_set_self hlt]
    · rw [List.getElem?_set_ne (by omega)]; exact r6
theorem Bm.set0 (h : Bm w W F u i J EB PB jb pb e0 e7 e20 e23) (hi : i < F.length) (v : Value) : Bm w (W.setCell ⟨w.heap.size, i * 24, none⟩ v) F u i J EB PB jb pb v e7 e20 e23 := by
  rcases h.row hi 0 (by omega) v with q | q | q
  · exact q
  · cases q
  · cases q
theorem Bm.set7 (h : Bm w W F u i J EB PB jb pb e0 e7 e20 e23) (hi : i < F.length) (v : Value) : Bm w (W.setCell ⟨w.heap.size, i * 24 + 7, none⟩ v) F u i J EB PB jb pb e0 v e20 e23 := by
  rcases h.row hi 7 (by omega) v with q | q | q
  · exact q
  · cases q
  · cases q
theorem Bm.set20 (h : Bm w W F u i J EB PB jb pb e0 e7 e20 e23) (hi : i < F.length) (v : Value) : Bm w (W.setCell ⟨w.heap.size, i * 24 + 20, none⟩ v) F u i J EB PB jb pb e0 e7 v e23 := by
  rcases h.row hi 20 (by omega) v with q | q | q
  · exact q
  · cases q
  · cases q
theorem Bm.set23 (h : Bm w W F u i J EB PB jb pb e0 e7 e20 e23) (hi : i < F.length) (v : Value) : Bm w (W.setCell ⟨w.heap.size, i * 24 + 23, none⟩ v) F u i J EB PB jb pb e0 e7 e20 v := by
  rcases h.row hi 23 (by omega) v with q | q | q
  · exact q
  · cases q
  · cases q
theorem Bm.done (h : Bm w W F u i J EB PB jb pb (.slice (some ⟨eb, 0, none⟩) 32 32) (.int .u8 (if (fl F i).side = true then 0 else 1)) (.int .u32 4294967295) (.bool (u && (fl F i).live))) (hb : Blk W eb 5 (bitCells fun _ => false)) (hl : w.heap.size + 2 ≤ eb) (hf : ∀ k, k < i → EB k ≠ eb) :
    Bd w W F u (i + 1) (upd J i jb) (upd EB i eb) (upd PB i pb) := by
  obtain ⟨c1, h1, hl1, hf1, r1, r2, r3, r4, r5, r6⟩ := h.files
  obtain ⟨c2, h2, hl2, s1, s2⟩ := h.reprs
  refine ⟨h.kept, ⟨c1, h1, hl1, fun k hk => ?_⟩, ⟨c2, h2, hl2, fun k hk => ?_⟩, fun k hk => ?_, fun k l hk hl' => ?_⟩
  · by_cases e : k = i
    · subst e; rw [upd_same, upd_same]; exact ⟨r1, r2, r3, r4, r5, r6⟩
    · rw [upd_ne _ _ e, upd_ne _ _ e]; exact hf1 k (by omega)
  · by_cases e : k = i
    · subst e; rw [upd_same]; exact s2
    · rw [upd_ne _ _ e]; exact s1 k (by omega)
  · by_cases e : k = i
    · subst e; rw [upd_same, upd_same, upd_same]; exact ⟨h.new, hl, hb⟩
    · rw [upd_ne _ _ e, upd_ne _ _ e, upd_ne _ _ e]; exact h.one k (by omega)
  · by_cases e : k = i
    · by_cases e2 : l = i
      · exact ⟨fun _ => e.trans e2.symm, fun _ => e.trans e2.symm⟩
      · subst e
        rw [upd_same, upd_same, upd_ne _ _ e2, upd_ne _ _ e2]
        exact ⟨fun c => absurd c.symm (hf l (by omega)), fun c => absurd c.symm (h.far l (by omega))⟩
    · by_cases e2 : l = i
      · subst e2
        rw [upd_same, upd_same, upd_ne _ _ e, upd_ne _ _ e]
        exact ⟨fun c => absurd c (hf k (by omega)), fun c => absurd c (h.far k (by omega))⟩
      · rw [upd_ne _ _ e, upd_ne _ _ e, upd_ne _ _ e2, upd_ne _ _ e2]
        exact h.ap k l (by omega) (by omega)
end
end Go.Proofs.Ytgnccfofhcbjjaa.lk
