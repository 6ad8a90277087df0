/-
  Fresh copies of files, parts, records and dependencies in memory, over this seat's program.
  Conditions: none.
-/
import Derived.Test.YtgnccfofhcbjjaaGr
import Derived.Test.YtgnccfofhcbjjaaTurn
import Derived.Test.YtgnccfofhcbjjaaMk1
namespace Go.Proofs.Ytgnccfofhcbjjaa.lk
open Go.ChangeShapes Go.WideShapes Go.ChangeAt Go.RowKit
open kit dfs

/-- W2 is W in all blocks from lo on that W has -/
def Above (lo : Nat) (W W2 : World) : Prop := W.heap.size ≤ W2.heap.size ∧ ∀ b, lo ≤ b → b < W.heap.size → W2.heap[b]? = W.heap[b]?
section
variable {lo : Nat} {W W2 : World}
theorem Above.of_kept (k : Kept W W2) : Above lo W W2 := ⟨k.size, fun b _ hb => k.block b hb⟩
theorem Above.set (W : World) {g : Nat} (hg : g < lo) (o : Nat) (u : Value) : Above lo W (W.setCell ⟨g, o, none⟩ u) := ⟨by simp [World.setCell], fun b hb _ => Below.heap_setCell W ⟨g, o, none⟩ u b (by show b ≠ g; omega)⟩
theorem Above.blk {g t : Nat} {cs : List Value} (h : Above lo W W2) (hb : Blk W g t cs) (hg : lo ≤ g) : Blk W2 g t cs := (h.2 g hg hb.lt).trans hb
theorem Above.trans {a b c : World} (h : Above lo a b) (g : Above lo b c) : Above lo a c := ⟨Nat.le_trans h.1 g.1, fun k hk hlt => (g.2 k hk (Nat.lt_of_lt_of_le hlt h.1)).trans (h.2 k hk hlt)⟩
theorem Above.mono {lo2 : Nat} {a b : World} (h : Above lo a b) (hl : lo ≤ lo2) : Above lo2 a b := ⟨h.1, fun k hk => h.2 k (Nat.le_trans hl hk)⟩
theorem Above.cell (h : Above lo W W2) {b o : Nat} {v : Value} (hb : lo ≤ b) (hc : W.cell? ⟨b, o, none⟩ = some v) : W2.cell? ⟨b, o, none⟩ = some v :=
  (World.cell?_of_block (a := ⟨b, o, none⟩) (h.2 b hb (World.block_lt_of_cell? W _ hc))).trans hc
/-- a slice lies in blocks from lo on -/
def Lo (lo : Nat) (v : Value) : Prop := ∀ x n c, v = .slice (some x) n c → lo ≤ x.block
theorem Lo.mono {lo2 : Nat} {v : Value} (h : Lo lo v) (hl : lo2 ≤ lo) : Lo lo2 v := fun x n c e => Nat.le_trans hl (h x n c e)
theorem Lo.nil (lo : Nat) (n c : Nat) : Lo lo (.slice none n c) := fun x n c e => by cases e
theorem Lo.at_ {b o n c : Nat} (h : lo ≤ b) : Lo lo (.slice (some ⟨b, o, none⟩) n c) := fun x n c e => by
  injection e with e1 _ _
  injection e1 with e1
  rw [← e1]
  exact h
theorem Sl.above {v : Value} {n size : Nat} {Q Q2 : Nat → Nat → Nat → Prop} (h : Sl W v n size Q) (hl : Lo lo v) (k : Above lo W W2) (hq : ∀ b o i, lo ≤ b → Q b o i → Q2 b o i) : Sl W2 v n size Q2 := by
  obtain ⟨a, c, h1, h2, h3, h4, h5⟩ := h
  refine ⟨a, c, h1, h2, h3, h4, fun hn => ?_⟩
  obtain ⟨b, off, e, hb, h6⟩ := h5 hn
  have hlo : lo ≤ b := hl ⟨b, off, none⟩ n c (by rw [h1, e])
  exact ⟨b, off, e, Nat.lt_of_lt_of_le hb k.1, fun i hi => hq _ _ _ hlo (h6 i hi)⟩
def RecsN (lo : Nat) (w : World) (v : Value) (R : List Rec) : Prop := RecsC w v R ∧ Lo lo v
def U32sN (lo : Nat) (w : World) (v : Value) (R : List Nat) : Prop := U32sC w v R ∧ Lo lo v
def DepsN (lo : Nat) (w : World) (v : Value) (R : List (Nat × Nat)) : Prop := DepsC w v R ∧ Lo lo v
/-- the cells of part p at place o of a row -/
def PartR (lo : Nat) (w : World) (cs : List Value) (o : Nat) (p : Prt) : Prop :=
  ∃ rv dv, cs[o]? = some rv ∧ cs[o + 1]? = some dv ∧ cs[o + 2]? = some (.bool p.rem) ∧ cs[o + 3]? = some (.bool p.force) ∧ U32sN lo w rv p.recs ∧ DepsN lo w dv p.deps
def PartsN (lo : Nat) (w : World) (v : Value) (P : List Prt) : Prop :=
  (v = .slice none 0 0 ∧ P.length = 0) ∨ ∃ g cs, v = .slice (some ⟨g, 0, none⟩) P.length P.length ∧ P.length ≤ maxLen ∧ lo ≤ g ∧ Blk w g 135 cs ∧ ∀ i, i < P.length → PartR lo w cs (i * 4) (prt P i)
def FileR (lo : Nat) (w : World) (cs : List Value) (o : Nat) (f : Fil) : Prop :=
  ∃ rv pv, cs[o]? = some (.int .i32 f.css) ∧ cs[o + 1]? = some (.bool f.side) ∧ cs[o + 2]? = some (.bool f.live) ∧ cs[o + 3]? = some rv ∧ cs[o + 4]? = some pv ∧ (-2147483648 ≤ f.css ∧ f.css ≤ 2147483647) ∧ RecsN lo w rv f.recs ∧ PartsN lo w pv f.parts
theorem RecsN.above {v : Value} {R : List Rec} (h : RecsN lo W v R) (k : Above lo W W2) : RecsN lo W2 v R :=
  ⟨Sl.above h.1 h.2 k fun _ _ _ hb q => ⟨k.cell hb q.1, k.cell hb q.2.1, k.cell hb q.2.2.1, q.2.2.2⟩, h.2⟩
theorem U32sN.above {v : Value} {R : List Nat} (h : U32sN lo W v R) (k : Above lo W W2) : U32sN lo W2 v R :=
  ⟨Sl.above h.1 h.2 k fun _ _ _ hb q => ⟨k.cell hb q.1, q.2⟩, h.2⟩
theorem DepsN.above {v : Value} {R : List (Nat × Nat)} (h : DepsN lo W v R) (k : Above lo W W2) : DepsN lo W2 v R :=
  ⟨Sl.above h.1 h.2 k fun _ _ _ hb q => ⟨k.cell hb q.1, k.cell hb q.2.1, q.2.2⟩, h.2⟩
theorem RecsN.mono {lo2 : Nat} {v : Value} {R : List Rec} (h : RecsN lo W v R) (hl : lo2 ≤ lo) : RecsN lo2 W v R := ⟨h.1, h.2.mono hl⟩
theorem U32sN.mono {lo2 : Nat} {v : Value} {R : List Nat} (h : U32sN lo W v R) (hl : lo2 ≤ lo) : U32sN lo2 W v R := ⟨h.1, h.2.mono hl⟩
theorem DepsN.mono {lo2 : Nat} {v : Value} {R : List (Nat × Nat)} (h : DepsN lo W v R) (hl : lo2 ≤ lo) : DepsN lo2 W v R := ⟨h.1, h.2.mono hl⟩
theorem PartR.above {cs : List Value} {o : Nat} {p : Prt} (h : PartR lo W cs o p) (k : Above lo W W2) : PartR lo W2 cs o p := by
  obtain ⟨rv, dv, h1, h2, h3, h4, h5, h6⟩ := h
  exact ⟨rv, dv, h1, h2, h3, h4, h5.above k, h6.above k⟩
theorem PartR.mono {lo2 : Nat} {cs : List Value} {o : Nat} {p : Prt} (h : PartR lo W cs o p) (hl : lo2 ≤ lo) : PartR lo2 W cs o p := by
  obtain ⟨rv, dv, h1, h2, h3, h4, h5, h6⟩ := h
  exact ⟨rv, dv, h1, h2, h3, h4, h5.mono hl, h6.mono hl⟩
theorem PartR.cells {cs cs2 : List Value} {o : Nat} {p : Prt} (h : PartR lo W cs o p) (he : ∀ j, j < 4 → cs2[o + j]? = cs[o + j]?) : PartR lo W cs2 o p := by
  obtain ⟨rv, dv, h1, h2, h3, h4, h5, h6⟩ := h
  exact ⟨rv, dv, (he 0 (by omega)).trans h1, (he 1 (by omega)).trans h2, (he 2 (by omega)).trans h3, (he 3 (by omega)).trans h4, h5, h6⟩
theorem PartsN.above {v : Value} {P : List Prt} (h : PartsN lo W v P) (k : Above lo W W2) : PartsN lo W2 v P := by
  rcases h with h | ⟨g, cs, h1, h2, h3, h4, h5⟩
  · exact .inl h
  · exact .inr ⟨g, cs, h1, h2, h3, k.blk h4 h3, fun i hi => (h5 i hi).above k⟩
theorem FileR.above {cs : List Value} {o : Nat} {f : Fil} (h : FileR lo W cs o f) (k : Above lo W W2) : FileR lo W2 cs o f := by
  obtain ⟨rv, pv, h1, h2, h3, h4, h5, h6, h7, h8⟩ := h
  exact ⟨rv, pv, h1, h2, h3, h4, h5, h6, h7.above k, h8.above k⟩
theorem FileR.cells {cs cs2 : List Value} {o : Nat} {f : Fil} (h : FileR lo W cs o f) (he : ∀ j, j < 5 → cs2[o + j]? = cs[o + j]?) : FileR lo W cs2 o f := by
  obtain ⟨rv, pv, h1, h2, h3, h4, h5, h6, h7, h8⟩ := h
  exact ⟨rv, pv, (he 0 (by omega)).trans h1, (he 1 (by omega)).trans h2, (he 2 (by omega)).trans h3, (he 3 (by omega)).trans h4, (he 4 (by omega)).trans h5, h6, h7, h8⟩
theorem PartsN.toC {v : Value} {P : List Prt} (h : PartsN lo W v P) : PartsC W v P := by
  rcases h with ⟨rfl, h2⟩ | ⟨g, cs, rfl, h2, h3, h4, h5⟩
  · unfold PartsC; rw [h2]; exact Sl.nil _ _ _
  · refine ⟨_, P.length, rfl, Nat.le_refl _, h2, fun e => (by cases e), fun _ => ⟨g, 0, rfl, h4.lt, fun i hi => ?_⟩⟩
    obtain ⟨rv, dv, q1, q2, q3, q4, q5, q6⟩ := h5 i hi
    rw [Nat.zero_add]
    exact ⟨rv, dv, by rw [h4.cell]; exact q1, by rw [h4.cell]; exact q2, by rw [h4.cell]; exact q3, by rw [h4.cell]; exact q4, q5.1, q6.1⟩
end

/-- a fresh row of n elements of that many cells, q of them written -/
structure Cp (w W : World) (T size n : Nat) (val : Nat → Nat → Value) (q : Nat) : Prop where
  kept : Kept w W
  row : ∃ cs, Blk W w.heap.size T cs ∧ cs.length = n * size ∧ ∀ i, i < q → ∀ j, j < size → cs[i * size + j]? = some (val i j)
section
variable {w W W2 : World} {T size n q : Nat} {val : Nat → Nat → Value}
theorem Cp.kept2 (h : Cp w W T size n val q) (k : Kept W W2) : Cp w W2 T size n val q := by
  obtain ⟨cs, hb, r⟩ := h.row
  exact ⟨h.kept.trans k, cs, hb.kept k, r⟩
theorem Cp.start {C : List Value} (hl : C.length = n * size) : Cp w (w.alloc (.cells C.toArray T)) T size n val 0 := ⟨(Kept.refl _).alloc _, C, Blk.new _ _ _, hl, fun i hi => absurd hi (by omega)⟩
theorem Cp.has (h : Cp w W T size n val q) {i j : Nat} (hi : i < n) (hj : j < size) : ∃ v, W.cell? ⟨w.heap.size, i * size + j, none⟩ = some v ∧ W.frozen? ⟨w.heap.size, i * size + j, none⟩ = false := by
  obtain ⟨cs, hb, hl, _⟩ := h.row
  refine hb.has ?_
  rw [hl]
  have := Nat.mul_le_mul_right size (show i + 1 ≤ n by omega)
  rw [Nat.succ_mul] at this
  omega
theorem slot_ne {size i q j j2 : Nat} (hi : i < q) (hj : j < size) : i * size + j ≠ q * size + j2 := by
  have := Nat.mul_le_mul_right size (show i + 1 ≤ q by omega)
  rw [Nat.succ_mul] at this
  omega
theorem slot_lt {size n q j : Nat} (hq : q < n) (hj : j < size) : q * size + j < n * size := by
  have := Nat.mul_le_mul_right size (show q + 1 ≤ n by omega)
  rw [Nat.succ_mul] at this
  omega
theorem Cp.step1 (h : Cp w W T 1 n val q) (hq : q < n) : Cp w (W.setCell ⟨w.heap.size, q * 1 + 0, none⟩ (val q 0)) T 1 n val (q + 1) := by
  obtain ⟨cs, hb, hl, hc⟩ := h.row
  refine ⟨h.kept.setCell (Nat.le_refl _) _, _, hb.set _ _, by simpa using hl, fun i hi j hj => ?_⟩
  obtain rfl : j = 0 := by omega
  have h0 := slot_lt (size := 1) hq (j := 0) (by omega)
  by_cases e : i = q
  · subst e; rw [List.getElem?_set_self (by omega)]
  · rw [List.getElem?_set_ne (by omega)]
    exact hc i (by omega) 0 hj
theorem Cp.step2 (h : Cp w W T 2 n val q) (hq : q < n) : Cp w ((W.setCell ⟨w.heap.size, q * 2, none⟩ (val q 0)).setCell ⟨w.heap.size, q * 2 + 1, none⟩ (val q 1)) T 2 n val (q + 1) := by
  obtain ⟨cs, hb, hl, hc⟩ := h.row
  refine ⟨(h.kept.setCell (Nat.le_refl _) _).setCell (Nat.le_refl _) _, _, (hb.set _ _).set _ _, by simpa using hl, fun i hi j hj => ?_⟩
  by_cases e : i = q
  · subst e
    rcases (show j = 0 ∨ j = 1 by omega) with rfl | rfl
    · rw [List.getElem?_set_ne (by omega), Nat.add_zero, List.getElem?_set_self (by omega)]
    · rw [List.getElem?_set_self (by rw [List.length_set]; omega)]
  · rw [List.getElem?_set_ne (by omega), List.getElem?_set_ne (by omega)]
    exact hc i (by omega) j hj
theorem Cp.step3 (h : Cp w W T 3 n val q) (hq : q < n) : Cp w (((W.setCell ⟨w.heap.size, q * 3, none⟩ (val q 0)).setCell ⟨w.heap.size, q * 3 + 1, none⟩ (val q 1)).setCell ⟨w.heap.size, q * 3 + 2, none⟩ (val q 2)) T 3 n val (q + 1) := by
  obtain ⟨cs, hb, hl, hc⟩ := h.row
  refine ⟨((h.kept.setCell (Nat.le_refl _) _).setCell (Nat.le_refl _) _).setCell (Nat.le_refl _) _, _, ((hb.set _ _).set _ _).set _ _, by simpa using hl, fun i hi j hj => ?_⟩
  by_cases e : i = q
  · subst e
    rcases (show j = 0 ∨ j = 1 ∨ j = 2 by omega) with rfl | rfl | rfl
    · rw [List.getElem?_set_ne (by omega), List.getElem?_set_ne (by omega), Nat.add_zero, List.getElem?_set_self (by omega)]
    · rw [List.getElem?_set_ne (by omega), List.getElem?_set_self (by rw [List.length_set]; omega)]
    · rw [List.getElem?_set_self (by rw [List.length_set, List.length_set]; omega)]
  · rw [List.getElem?_set_ne (by omega), List.getElem?_set_ne (by omega), List.getElem?_set_ne (by omega)]
    exact hc i (by omega) j hj
end
def recV (R : List Rec) (i : Nat) : Nat → Value
  | 0 => .int .i32 (rcd R i).tgt
  | 1 => .int .u8 ((rcd R i).kind : Int)
  | _ => .bool (rcd R i).ext
def natV (R : List Nat) (i : Nat) : Nat → Value
  | _ => .int .u32 (nat R i : Int)
def depV (R : List (Nat × Nat)) (i : Nat) : Nat → Value
  | 0 => .int .u32 ((lk.dep R i).1 : Int)
  | _ => .int .u32 ((lk.dep R i).2 : Int)
section
variable {w W : World} {lo : Nat}
theorem recs_fin {R : List Rec} (h : Cp w W 137 3 R.length (recV R) R.length) (hlo : lo ≤ w.heap.size) (hm : R.length ≤ 262144) (hb : ∀ i, i < R.length → -2147483648 ≤ (rcd R i).tgt ∧ (rcd R i).tgt ≤ 2147483647 ∧ (rcd R i).kind ≤ 255) : RecsN lo W (.slice (some ⟨w.heap.size, 0, none⟩) R.length R.length) R := by
  obtain ⟨cs, hk, _, hc⟩ := h.row
  refine ⟨⟨_, R.length, rfl, Nat.le_refl _, by unfold maxLen; omega, fun e => (by cases e), fun _ => ⟨_, 0, rfl, hk.lt, fun i hi => ?_⟩⟩, Lo.at_ hlo⟩
  rw [Nat.zero_add]
  exact ⟨by rw [hk.cell]; exact hc i hi 0 (by omega), by rw [hk.cell]; exact hc i hi 1 (by omega), by rw [hk.cell]; exact hc i hi 2 (by omega), hb i hi⟩
theorem nats_fin {R : List Nat} (h : Cp w W 23 1 R.length (natV R) R.length) (hlo : lo ≤ w.heap.size) (hm : R.length ≤ 262144) (hb : ∀ i, i < R.length → nat R i ≤ 4294967295) : U32sN lo W (.slice (some ⟨w.heap.size, 0, none⟩) R.length R.length) R := by
  obtain ⟨cs, hk, _, hc⟩ := h.row
  refine ⟨⟨_, R.length, rfl, Nat.le_refl _, by unfold maxLen; omega, fun e => (by cases e), fun _ => ⟨_, 0, rfl, hk.lt, fun i hi => ?_⟩⟩, Lo.at_ hlo⟩
  rw [Nat.zero_add]
  exact ⟨by rw [hk.cell]; exact hc i hi 0 (by omega), hb i hi⟩
theorem deps_fin {R : List (Nat × Nat)} (h : Cp w W 139 2 R.length (depV R) R.length) (hlo : lo ≤ w.heap.size) (hm : R.length ≤ 262144) (hb : ∀ i, i < R.length → (lk.dep R i).1 ≤ 4294967295 ∧ (lk.dep R i).2 ≤ 4294967295) : DepsN lo W (.slice (some ⟨w.heap.size, 0, none⟩) R.length R.length) R := by
  obtain ⟨cs, hk, _, hc⟩ := h.row
  refine ⟨⟨_, R.length, rfl, Nat.le_refl _, by unfold maxLen; omega, fun e => (by cases e), fun _ => ⟨_, 0, rfl, hk.lt, fun i hi => ?_⟩⟩, Lo.at_ hlo⟩
  rw [Nat.zero_add]
  exact ⟨by rw [hk.cell]; exact hc i hi 0 (by omega), by rw [hk.cell]; exact hc i hi 1 (by omega), hb i hi⟩
/-- nil stays nil -/
theorem recs_nil {n c : Nat} {R : List Rec} (h : RecsC W (.slice none n c) R) : RecsN lo W (.slice none n c) R := ⟨h, Lo.nil _ _ _⟩
theorem nats_nil {n c : Nat} {R : List Nat} (h : U32sC W (.slice none n c) R) : U32sN lo W (.slice none n c) R := ⟨h, Lo.nil _ _ _⟩
theorem deps_nil {n c : Nat} {R : List (Nat × Nat)} (h : DepsC W (.slice none n c) R) : DepsN lo W (.slice none n c) R := ⟨h, Lo.nil _ _ _⟩
theorem parts_nil {n c : Nat} {R : List Prt} (h : PartsC w (.slice none n c) R) : PartsN lo W (.slice none n c) R := by
  obtain ⟨a, c', e, h1, h2, h3, h4⟩ := h
  injection e with e1 e2 e3
  subst e1 e2 e3
  have hc := h3 rfl
  have hz : R.length = 0 := by omega
  exact .inl ⟨by rw [hz, hc], hz⟩
end

/-- the row of parts, j of them copied -/
structure Pk (w W : World) (P : List Prt) (j : Nat) : Prop where
  kept : Kept w W
  row : ∃ cs, Blk W w.heap.size 135 cs ∧ cs.length = P.length * 4 ∧ ∀ i, i < j → PartR (w.heap.size + 1) W cs (i * 4) (prt P i)
/-- the same, part j's cells laid: its records and dependencies are rv and dv -/
structure Pm (w W : World) (P : List Prt) (j : Nat) (rv dv : Value) : Prop where
  kept : Kept w W
  row : ∃ cs, Blk W w.heap.size 135 cs ∧ cs.length = P.length * 4 ∧ (∀ i, i < j → PartR (w.heap.size + 1) W cs (i * 4) (prt P i)) ∧ cs[j * 4]? = some rv ∧ cs[j * 4 + 1]? = some dv ∧ cs[j * 4 + 2]? = some (.bool (prt P j).rem) ∧ cs[j * 4 + 3]? = some (.bool (prt P j).force)
section
variable {w W W2 : World} {P : List Prt} {j : Nat} {rv dv : Value}
theorem Pk.start {C : List Value} (hl : C.length = P.length * 4) : Pk w (w.alloc (.cells C.toArray 135)) P 0 := ⟨(Kept.refl _).alloc _, C, Blk.new _ _ _, hl, fun i hi => absurd hi (by omega)⟩
theorem Pk.kept2 (h : Pk w W P j) (k : Kept W W2) : Pk w W2 P j := by
  obtain ⟨cs, hb, hl, hc⟩ := h.row
  exact ⟨h.kept.trans k, cs, hb.kept k, hl, fun i hi => (hc i hi).above (Above.of_kept k)⟩
theorem Pk.has (h : Pk w W P j) {i o : Nat} (hi : i < P.length) (ho : o < 4) : ∃ v, W.cell? ⟨w.heap.size, i * 4 + o, none⟩ = some v ∧ W.frozen? ⟨w.heap.size, i * 4 + o, none⟩ = false := by
  obtain ⟨cs, hb, hl, _⟩ := h.row
  exact hb.has (by rw [hl]; exact slot_lt hi ho)
def laid4 (W : World) (g : Nat) (p : Prt) (j : Nat) (rv dv : Value) : World :=
  (((W.setCell ⟨g, j * 4, none⟩ rv).setCell ⟨g, j * 4 + 1, none⟩ dv).setCell ⟨g, j * 4 + 2, none⟩ (.bool p.rem)).setCell ⟨g, j * 4 + 3, none⟩ (.bool p.force)
theorem laid4_above (W : World) {g lo : Nat} (hg : g < lo) (p : Prt) (j : Nat) (rv dv : Value) : Above lo W (laid4 W g p j rv dv) :=
  (((Above.set _ hg _ _).trans (Above.set _ hg _ _)).trans (Above.set _ hg _ _)).trans (Above.set _ hg _ _)
theorem Pk.open (h : Pk w W P j) (hj : j < P.length) (rv dv : Value) : Pm w (laid4 W w.heap.size (prt P j) j rv dv) P j rv dv := by
  obtain ⟨cs, hb, hl, hc⟩ := h.row
  have hA : Above (w.heap.size + 1) W (laid4 W w.heap.size (prt P j) j rv dv) := laid4_above W (Nat.lt_succ_self _) _ _ _ _
  refine ⟨(((h.kept.setCell (Nat.le_refl _) _).setCell (Nat.le_refl _) _).setCell (Nat.le_refl _) _).setCell (Nat.le_refl _) _, _, (((hb.set _ _).set _ _).set _ _).set _ _, by simpa using hl, fun i hi => ((hc i hi).above hA).cells (fun o ho => ?_), ?_, ?_, ?_, ?_⟩
  · rw [List.getElem?_set_ne (by omega), List.getElem?_set_ne (by omega), List.getElem?_set_ne (by omega), List.getElem?_set_ne (by omega)]
  · rw [List.getElem?_set_ne (by omega), List.getElem?_set_ne (by omega), List.getElem?_set_ne (by omega), List.getElem?_set_self (by omega)]
  · rw [List.getElem?_set_ne (by omega), List.getElem?_set_ne (by omega), List.getElem?_set_self (by simp; omega)]
  · rw [List.getElem?_set_ne (by omega), List.getElem?_set_self (by simp; omega)]
  · rw [List.getElem?_set_self (by simp; omega)]
theorem Pm.kept2 (h : Pm w W P j rv dv) (k : Kept W W2) : Pm w W2 P j rv dv := by
  obtain ⟨cs, hb, hl, hc, r⟩ := h.row
  exact ⟨h.kept.trans k, cs, hb.kept k, hl, fun i hi => (hc i hi).above (Above.of_kept k), r⟩
theorem Pm.has (h : Pm w W P j rv dv) {i o : Nat} (hi : i < P.length) (ho : o < 4) : ∃ v, W.cell? ⟨w.heap.size, i * 4 + o, none⟩ = some v ∧ W.frozen? ⟨w.heap.size, i * 4 + o, none⟩ = false := by
  obtain ⟨cs, hb, hl, _⟩ := h.row
  exact hb.has (by rw [hl]; exact slot_lt hi ho)
theorem Pm.above {rv2 : Value} {o : Nat} : Above (w.heap.size + 1) W (W.setCell ⟨w.heap.size, o, none⟩ rv2) := Above.set _ (Nat.lt_succ_self _) _ _
theorem Pm.setR (h : Pm w W P j rv dv) (hj : j < P.length) (rv2 : Value) : Pm w (W.setCell ⟨w.heap.size, j * 4, none⟩ rv2) P j rv2 dv := by
  obtain ⟨cs, hb, hl, hc, r1, r2, r3, r4⟩ := h.row
  refine ⟨h.kept.setCell (Nat.le_refl _) _, _, hb.set _ _, by simpa using hl, fun i hi => ((hc i hi).above Pm.above).cells (fun o ho => ?_), ?_, ?_, ?_, ?_⟩
  · rw [List.getElem?_set_ne (by omega)]
  · rw [List.getElem?_set_self (by omega)]
  · rw [List.getElem?_set_ne (by omega)]; exact r2
  · rw [List.getElem?_set_ne (by omega)]; exact r3
  · rw [List.getElem?_set_ne (by omega)]; exact r4
theorem Pm.setD (h : Pm w W P j rv dv) (hj : j < P.length) (dv2 : Value) : Pm w (W.setCell ⟨w.heap.size, j * 4 + 1, none⟩ dv2) P j rv dv2 := by
  obtain ⟨cs, hb, hl, hc, r1, r2, r3, r4⟩ := h.row
  refine ⟨h.kept.setCell (Nat.le_refl _) _, _, hb.set _ _, by simpa using hl, fun i hi => ((hc i hi).above Pm.above).cells (fun o ho => ?_), ?_, ?_, ?_, ?_⟩
  · rw [List.getElem?_set_ne (by omega)]
  · rw [List.getElem?_set_ne (by omega)]; exact r1
  · rw [List.getElem?_set_self (by omega)]
  · rw [List.getElem?_set_ne (by omega)]; exact r3
  · rw [List.getElem?_set_ne (by omega)]; exact r4
theorem Pm.done (h : Pm w W P j rv dv) (h1 : U32sN (w.heap.size + 1) W rv (prt P j).recs) (h2 : DepsN (w.heap.size + 1) W dv (prt P j).deps) : Pk w W P (j + 1) := by
  obtain ⟨cs, hb, hl, hc, r1, r2, r3, r4⟩ := h.row
  refine ⟨h.kept, cs, hb, hl, fun i hi => ?_⟩
  by_cases e : i = j
  · rw [e]; exact ⟨rv, dv, r1, r2, r3, r4, h1, h2⟩
  · exact hc i (by omega)
theorem Pk.fin (h : Pk w W P P.length) {lo : Nat} (hlo : lo ≤ w.heap.size) (hm : P.length ≤ 262144) : PartsN lo W (.slice (some ⟨w.heap.size, 0, none⟩) P.length P.length) P := by
  obtain ⟨cs, hb, _, hc⟩ := h.row
  exact .inr ⟨_, cs, rfl, by unfold maxLen; omega, hlo, hb, fun i hi => (hc i hi).mono (by omega)⟩
end

/-- the row of files, k of them copied -/
structure Fk (w W : World) (F : Ct) (k : Nat) : Prop where
  kept : Kept w W
  row : ∃ cs, Blk W w.heap.size 66 cs ∧ cs.length = F.length * 5 ∧ ∀ i, i < k → FileR (w.heap.size + 1) W cs (i * 5) (fl F i)
structure Fm (w W : World) (F : Ct) (k : Nat) (rv pv : Value) : Prop where
  kept : Kept w W
  row : ∃ cs, Blk W w.heap.size 66 cs ∧ cs.length = F.length * 5 ∧ (∀ i, i < k → FileR (w.heap.size + 1) W cs (i * 5) (fl F i)) ∧ cs[k * 5]? = some (.int .i32 (fl F k).css) ∧ cs[k * 5 + 1]? = some (.bool (fl F k).side) ∧ cs[k * 5 + 2]? = some (.bool (fl F k).live) ∧ cs[k * 5 + 3]? = some rv ∧ cs[k * 5 + 4]? = some pv
section
variable {w W W2 : World} {F : Ct} {k : Nat} {rv pv : Value}
theorem Fk.start {C : List Value} (hl : C.length = F.length * 5) : Fk w (w.alloc (.cells C.toArray 66)) F 0 := ⟨(Kept.refl _).alloc _, C, Blk.new _ _ _, hl, fun i hi => absurd hi (by omega)⟩
theorem Fk.kept2 (h : Fk w W F k) (kk : Kept W W2) : Fk w W2 F k := by
  obtain ⟨cs, hb, hl, hc⟩ := h.row
  exact ⟨h.kept.trans kk, cs, hb.kept kk, hl, fun i hi => (hc i hi).above (Above.of_kept kk)⟩
theorem Fk.has (h : Fk w W F k) {i o : Nat} (hi : i < F.length) (ho : o < 5) : ∃ v, W.cell? ⟨w.heap.size, i * 5 + o, none⟩ = some v ∧ W.frozen? ⟨w.heap.size, i * 5 + o, none⟩ = false := by
  obtain ⟨cs, hb, hl, _⟩ := h.row
  exact hb.has (by rw [hl]; exact slot_lt hi ho)
def laid5 (W : World) (g : Nat) (f : Fil) (k : Nat) (rv pv : Value) : World :=
  ((((W.setCell ⟨g, k * 5, none⟩ (.int .i32 f.css)).setCell ⟨g, k * 5 + 1, none⟩ (.bool f.side)).setCell ⟨g, k * 5 + 2, none⟩ (.bool f.live)).setCell ⟨g, k * 5 + 3, none⟩ rv).setCell ⟨g, k * 5 + 4, none⟩ pv
theorem laid5_above (W : World) {g lo : Nat} (hg : g < lo) (f : Fil) (k : Nat) (rv pv : Value) : Above lo W (laid5 W g f k rv pv) :=
  ((((Above.set _ hg _ _).trans (Above.set _ hg _ _)).trans (Above.set _ hg _ _)).trans (Above.set _ hg _ _)).trans (Above.set _ hg _ _)
theorem Fk.open (h : Fk w W F k) (hk : k < F.length) (rv pv : Value) : Fm w (laid5 W w.heap.size (fl F k) k rv pv) F k rv pv := by
  obtain ⟨cs, hb, hl, hc⟩ := h.row
  have hA : Above (w.heap.size + 1) W (laid5 W w.heap.size (fl F k) k rv pv) :=
    ((((Above.set _ (Nat.lt_succ_self _) _ _).trans (Above.set _ (Nat.lt_succ_self _) _ _)).trans (Above.set _ (Nat.lt_succ_self _) _ _)).trans (Above.set _ (Nat.lt_succ_self _) _ _)).trans (Above.set _ (Nat.lt_succ_self _) _ _)
  refine ⟨((((h.kept.setCell (Nat.le_refl _) _).setCell (Nat.le_refl _) _).setCell (Nat.le_refl _) _).setCell (Nat.le_refl _) _).setCell (Nat.le_refl _) _, _, ((((hb.set _ _).set _ _).set _ _).set _ _).set _ _, by simpa using hl, fun i hi => ((hc i hi).above hA).cells (fun o ho => ?_), ?_, ?_, ?_, ?_, ?_⟩
  · rw [List.getElem?_set_ne (by omega), List.getElem?_set_ne (by omega), List.getElem?_set_ne (by omega), List.getElem?_set_ne (by omega), List.getElem?_set_ne (by omega)]
  · rw [List.getElem?_set_ne (by omega), List.getElem?_set_ne (by omega), List.getElem?_set_ne (by omega), List.getElem?_set_ne (by omega), List.getElem?_set_self (by omega)]
  · rw [List.getElem?_set_ne (by omega), List.getElem?_set_ne (by omega), List.getElem?_set_ne (by omega), List.getElem?_set_self (by simp; omega)]
  · rw [List.getElem?_set_ne (by omega), List.getElem?_set_ne (by omega), List.getElem?_set_self (by simp; omega)]
  · rw [List.getElem?_set_ne (by omega), List.getElem?_set_self (by simp; omega)]
  · rw [List.getElem?_set_self (by simp; omega)]
theorem Fm.kept2 (h : Fm w W F k rv pv) (kk : Kept W W2) : Fm w W2 F k rv pv := by
  obtain ⟨cs, hb, hl, hc, r⟩ := h.row
  exact ⟨h.kept.trans kk, cs, hb.kept kk, hl, fun i hi => (hc i hi).above (Above.of_kept kk), r⟩
theorem Fm.has (h : Fm w W F k rv pv) {i o : Nat} (hi : i < F.length) (ho : o < 5) : ∃ v, W.cell? ⟨w.heap.size, i * 5 + o, none⟩ = some v ∧ W.frozen? ⟨w.heap.size, i * 5 + o, none⟩ = false := by
  obtain ⟨cs, hb, hl, _⟩ := h.row
  exact hb.has (by rw [hl]; exact slot_lt hi ho)
theorem Fm.setR (h : Fm w W F k rv pv) (hk : k < F.length) (rv2 : Value) : Fm w (W.setCell ⟨w.heap.size, k * 5 + 3, none⟩ rv2) F k rv2 pv := by
  obtain ⟨cs, hb, hl, hc, r0, r1, r2, r3, r4⟩ := h.row
  refine ⟨h.kept.setCell (Nat.le_refl _) _, _, hb.set _ _, by simpa using hl, fun i hi => ((hc i hi).above Pm.above).cells (fun o ho => ?_), ?_, ?_, ?_, ?_, ?_⟩
  · rw [List.getElem?_set_ne (by omega)]
  · rw [List.getElem?_set_ne (by omega)]; exact r0
  · rw [List.getElem?_set_ne (by omega)]; exact r1
  · rw [List.getElem?_set_ne (by omega)]; exact r2
  · rw [List.getElem?_set_self (by omega)]
  · rw [List.getElem?_set_ne (by omega)]; exact r4
theorem Fm.setP (h : Fm w W F k rv pv) (hk : k < F.length) (pv2 : Value) : Fm w (W.setCell ⟨w.heap.size, k * 5 + 4, none⟩ pv2) F k rv pv2 := by
  obtain ⟨cs, hb, hl, hc, r0, r1, r2, r3, r4⟩ := h.row
  refine ⟨h.kept.setCell (Nat.le_refl _) _, _, hb.set _ _, by simpa using hl, fun i hi => ((hc i hi).above Pm.above).cells (fun o ho => ?_), ?_, ?_, ?_, ?_, ?_⟩
  · rw [List.getElem?_set_ne (by omega)]
  · rw [List.getElem?_set_ne (by omega)]; exact r0
  · rw [List.getElem?_set_ne (by omega)]; exact r1
  · rw [List.getElem?_set_ne (by omega)]; exact r2
  · rw [List.getElem?_set_ne (by omega)]; exact r3
  · rw [List.getElem?_set_self (by omega)]
theorem Fm.done (h : Fm w W F k rv pv) (hb : -2147483648 ≤ (fl F k).css ∧ (fl F k).css ≤ 2147483647) (h1 : RecsN (w.heap.size + 1) W rv (fl F k).recs) (h2 : PartsN (w.heap.size + 1) W pv (fl F k).parts) : Fk w W F (k + 1) := by
  obtain ⟨cs, hb2, hl, hc, r0, r1, r2, r3, r4⟩ := h.row
  refine ⟨h.kept, cs, hb2, hl, fun i hi => ?_⟩
  by_cases e : i = k
  · rw [e]; exact ⟨rv, pv, r0, r1, r2, r3, r4, hb, h1, h2⟩
  · exact hc i (by omega)
theorem Fk.fin (h : Fk w W F F.length) (hm : F.length ≤ 262144) : FilesC W (.slice (some ⟨w.heap.size, 0, none⟩) F.length F.length) F := by
  obtain ⟨cs, hb, _, hc⟩ := h.row
  refine ⟨_, F.length, rfl, Nat.le_refl _, by unfold maxLen; omega, fun e => (by cases e), fun _ => ⟨_, 0, rfl, hb.lt, fun i hi => ?_⟩⟩
  obtain ⟨rv, pv, q0, q1, q2, q3, q4, q5, q6, q7⟩ := hc i hi
  rw [Nat.zero_add]
  exact ⟨rv, pv, by rw [hb.cell]; exact q0, by rw [hb.cell]; exact q1, by rw [hb.cell]; exact q2, by rw [hb.cell]; exact q3, by rw [hb.cell]; exact q4, q5, q6.1, q7.toC⟩
end
end Go.Proofs.Ytgnccfofhcbjjaa.lk
