/-
  What tsBuild lays in memory over this seat's program.
  Conditions: none.
-/
import Derived.Test.YtbdchplgefgkjabTb
import Derived.Test.YtbdchplgefgkjabTf
namespace Go.Proofs.Ytbdchplgefgkjab.tm
open Go.ChangeShapes Go.WideShapes Go.ChangeAt Go.RowKit
open kit dfs

theorem depCells_of {cs : List Value} {D : List (Nat × Nat)} (hl : cs.length = D.length * 2) (h : ∀ q (hq : q < D.length), cs[q * 2]? = some (.int .u32 (D[q].1 : Int)) ∧ cs[q * 2 + 1]? = some (.int .u32 (D[q].2 : Int))) : cs = depCells D := by
  apply List.ext_getElem?
  intro i
  by_cases hi : i < D.length * 2
  · have hq : i / 2 < D.length := by omega
    obtain ⟨a1, a2⟩ := h _ hq
    obtain ⟨b1, b2⟩ := depCells_at D _ hq
    rcases Nat.mod_two_eq_zero_or_one i with e | e
    · rw [show i = i / 2 * 2 by omega, a1, b1]
    · rw [show i = i / 2 * 2 + 1 by omega, a2, b2]
  · rw [List.getElem?_eq_none (by omega), List.getElem?_eq_none (by rw [depCells_len]; omega)]

/-- a part's dependencies, q of them laid -/
structure Dq (w2 W : World) (D : List (Nat × Nat)) (q : Nat) : Prop where
  kept : Kept w2 W
  row : ∃ cs, Blk W w2.heap.size 111 cs ∧ cs.length = D.length * 2 ∧ ∀ i (hi : i < D.length), i < q → cs[i * 2]? = some (.int .u32 (D[i].1 : Int)) ∧ cs[i * 2 + 1]? = some (.int .u32 (D[i].2 : Int))
theorem Dq.step {w2 W : World} {D : List (Nat × Nat)} {q : Nat} (h : Dq w2 W D q) (hq : q < D.length) : Dq w2 ((W.setCell ⟨w2.heap.size, q * 2, none⟩ (.int .u32 (D[q].1 : Int))).setCell ⟨w2.heap.size, q * 2 + 1, none⟩ (.int .u32 (D[q].2 : Int))) D (q + 1) := by
  obtain ⟨cs, hb, hl, hc⟩ := h.row
  refine ⟨(h.kept.setCell (Nat.le_refl _) _).setCell (Nat.le_refl _) _, _, (hb.set _ _).set _ _, by simpa using hl, fun i hi hiq => ?_⟩
  by_cases e : i = q
  · subst e
    rw [List.getElem?_set_ne (by omega), List.getElem?_set_self (by omega), List.getElem?_set_self (by rw [List.length_set]; omega)]
    exact ⟨rfl, rfl⟩
  · rw [List.getElem?_set_ne (by omega), List.getElem?_set_ne (by omega), List.getElem?_set_ne (by omega), List.getElem?_set_ne (by omega)]
    exact hc i hi (by omega)
theorem Dq.kept2 {w2 W W2 : World} {D : List (Nat × Nat)} {q : Nat} (h : Dq w2 W D q) (k : Kept W W2) : Dq w2 W2 D q := by
  obtain ⟨cs, hb, r⟩ := h.row
  exact ⟨h.kept.trans k, cs, hb.kept k, r⟩
theorem Dq.fin {w2 W : World} {D : List (Nat × Nat)} (h : Dq w2 W D D.length) : Blk W w2.heap.size 111 (depCells D) := by
  obtain ⟨cs, hb, hl, hc⟩ := h.row
  rw [← depCells_of hl (fun q hq => hc q hq hq)]
  exact hb
/-- the value of a part -/
def PartV (db nd : Nat) (k : Bool) (A : Array Value) : Prop := A.size = 11 ∧ A.all (·.oneCell') = true ∧ PartAt A.toList db nd k false 0
/-- file i's parts, j of them laid -/
structure Pq (w1 W : World) (F : Ct) (i j : Nat) (DB : Nat → Nat) : Prop where
  kept : Kept w1 W
  row : ∃ cs, Blk W w1.heap.size 120 cs ∧ cs.length = np F i * 11 ∧ (∀ v ∈ cs, v.oneCell' = true) ∧ ∀ p, p < j → PartAt cs (DB p) (deps F i p).length (keep F i p) false (p * 11)
  dps : ∀ p, p < j → Blk W (DB p) 111 (depCells (deps F i p))
theorem Pq.step {w1 W W2 : World} {F : Ct} {i j db : Nat} {DB : Nat → Nat} {A : Array Value} (h : Pq w1 W F i j DB) (hj : j < np F i) (k : Kept W W2) (hd : Blk W2 db 111 (depCells (deps F i j))) (hA : PartV db (deps F i j).length (keep F i j) A) :
    Pq w1 (W2.setCells w1.heap.size (j * 11) A.toList) F i (j + 1) (upd DB j db) := by
  obtain ⟨cs, hb, hl, ho, hc⟩ := h.row
  have hA11 : A.toList.length = 11 := by simpa using hA.1
  have hr : j * 11 + 11 ≤ np F i * 11 := by have := Nat.mul_le_mul_right 11 (show j + 1 ≤ np F i by omega); omega
  obtain ⟨c2, t2, l2, a2, b2⟩ := Blk.setCells A.toList (j * 11) W2 _ (hb.kept k) (by rw [hA11, hl]; exact hr)
  refine ⟨Kept.setCells _ _ _ (h.kept.trans k) (Nat.le_refl _), ⟨c2, t2, l2.trans hl, fun v hv => ?_, fun p hp => ?_⟩, fun p hp => ?_⟩
  · obtain ⟨x, hx, rfl⟩ := List.getElem_of_mem hv
    by_cases e : x < j * 11 ∨ j * 11 + A.toList.length ≤ x
    · have := a2 x e
      rw [List.getElem?_eq_getElem hx, List.getElem?_eq_getElem (by omega)] at this
      rw [Option.some.inj this]
      exact ho _ (List.getElem_mem _)
    · have := b2 (x - j * 11) (by omega)
      rw [show j * 11 + (x - j * 11) = x by omega, List.getElem?_eq_getElem hx, List.getElem?_eq_getElem (by omega)] at this
      rw [Option.some.inj this]
      exact (Array.all_eq_true_iff_forall_mem.1 hA.2.1) _ (by simp)
  · by_cases e : p = j
    · subst e
      rw [upd_same]
      obtain ⟨q1, q2, q3, q4, q5⟩ := hA.2.2
      simp only [Nat.zero_add] at q1 q2 q3 q4 q5
      exact ⟨by rw [b2 2 (by omega)]; exact q1, by rw [b2 7 (by omega)]; exact q2, by rw [b2 8 (by omega)]; exact q3, by rw [b2 9 (by omega)]; exact q4, by rw [b2 10 (by omega)]; exact q5⟩
    · rw [upd_ne _ _ e]
      obtain ⟨q1, q2, q3, q4, q5⟩ := hc p (by omega)
      exact ⟨by rw [a2 _ (by omega)]; exact q1, by rw [a2 _ (by omega)]; exact q2, by rw [a2 _ (by omega)]; exact q3, by rw [a2 _ (by omega)]; exact q4, by rw [a2 _ (by omega)]; exact q5⟩
  · by_cases e : p = j
    · subst e
      rw [upd_same]
      exact Blk.setCellsFar (hd.apart (hb.kept k) (by decide)) _ _ _ _ hd
    · rw [upd_ne _ _ e]
      have := (h.dps p (by omega)).kept k
      exact Blk.setCellsFar (this.apart (hb.kept k) (by decide)) _ _ _ _ this

/-- file i: its JSRepr in block Jb, its parts in block Pb -/
def One (W : World) (Jb Pb : Nat) (Db : Nat → Nat) (F : Ct) (i : Nat) : Prop :=
  (∃ cs, Blk W Jb 154 cs ∧ cs[20]? = some (.slice (some ⟨Pb, 0, none⟩) (np F i) (np F i)) ∧ cs[63]? = some (.int .u32 0)) ∧
  (∃ cs, Blk W Pb 120 cs ∧ cs.length = np F i * 11 ∧ (∀ v ∈ cs, v.oneCell' = true) ∧ ∀ p, p < np F i → PartAt cs (Db p) (deps F i p).length (keep F i p) false (p * 11)) ∧
  ∀ p, p < np F i → Blk W (Db p) 111 (depCells (deps F i p))
section
variable {W W2 : World} {Jb Pb : Nat} {Db : Nat → Nat} {F : Ct} {i : Nat}
theorem One.kept (h : One W Jb Pb Db F i) (k : Kept W W2) : One W2 Jb Pb Db F i := by
  obtain ⟨⟨c1, h1, r1⟩, ⟨c2, h2, r2⟩, h3⟩ := h
  exact ⟨⟨c1, h1.kept k, r1⟩, ⟨c2, h2.kept k, r2⟩, fun p hp => (h3 p hp).kept k⟩
theorem One.far (h : One W Jb Pb Db F i) {b t : Nat} {cs : List Value} (hb : Blk W b t cs) (t1 : 154 ≠ t) (t2 : 120 ≠ t) (t3 : 111 ≠ t) (o : Nat) (u : Value) : One (W.setCell ⟨b, o, none⟩ u) Jb Pb Db F i := by
  obtain ⟨⟨c1, h1, r1⟩, ⟨c2, h2, r2⟩, h3⟩ := h
  exact ⟨⟨c1, h1.far (h1.apart hb t1) _, r1⟩, ⟨c2, h2.far (h2.apart hb t2) _, r2⟩, fun p hp => (h3 p hp).far ((h3 p hp).apart hb t3) _⟩
theorem One.fars (h : One W Jb Pb Db F i) {b t : Nat} {cs : List Value} (hb : Blk W b t cs) (t1 : 154 ≠ t) (t2 : 120 ≠ t) (t3 : 111 ≠ t) (o : Nat) (vs : List Value) : One (W.setCells b o vs) Jb Pb Db F i := by
  obtain ⟨⟨c1, h1, r1⟩, ⟨c2, h2, r2⟩, h3⟩ := h
  exact ⟨⟨c1, Blk.setCellsFar (h1.apart hb t1) _ _ _ _ h1, r1⟩, ⟨c2, Blk.setCellsFar (h2.apart hb t2) _ _ _ _ h2, r2⟩, fun p hp => Blk.setCellsFar ((h3 p hp).apart hb t3) _ _ _ _ (h3 p hp)⟩
end
theorem setCells_size (b : Nat) : ∀ (vs : List Value) (o : Nat) (W : World), (W.setCells b o vs).heap.size = W.heap.size := by
  intro vs
  induction vs with
  | nil => intro o W; rfl
  | cons v r ih => intro o W; show ((W.setCell _ v).setCells _ (o + 1) r).heap.size = _; rw [ih]; simp [World.setCell]

structure Bd (w0 wr : World) (n i : Nat) (J PB : Nat → Nat) (DB : Nat → Nat → Nat) (F : Ct) : Prop where
  kept : Kept w0 wr
  files : ∃ cs, Blk wr w0.heap.size 181 cs ∧ cs.length = n * 24 ∧ ∀ j, j < i → cs[j * 24 + 2]? = some (.iface 121 (.pointer (some ⟨J j, 0, none⟩))) ∧ cs[j * 24 + 23]? = some (.bool false)
  reprs : ∃ cs, Blk wr (w0.heap.size + 1) 121 cs ∧ cs.length = n ∧ ∀ j, j < i → cs[j]? = some (.pointer (some ⟨J j, 0, none⟩))
  one : ∀ j, j < i → PB j < wr.heap.size ∧ w0.heap.size ≤ PB j ∧ One wr (J j) (PB j) (DB j) F j
  apart : ∀ j k, j < i → k < i → PB j = PB k → j = k
theorem Bd.step {w0 wr W1 W2 : World} {n i Jb Pb : Nat} {Db : Nat → Nat} {J PB : Nat → Nat} {DB : Nat → Nat → Nat} {F : Ct} {A : Array Value} (h : Bd w0 wr n i J PB DB F) (k1 : Kept wr W1) (hO : One W1 Jb Pb Db F i) (hP : wr.heap.size ≤ Pb) (hi : i < n)
    (k2 : Kept (W1.setCell ⟨w0.heap.size + 1, i, none⟩ (.pointer (some ⟨Jb, 0, none⟩))) W2) (hA : FileV Jb A) :
    Bd w0 (W2.setCells w0.heap.size (i * 24) A.toList) n (i + 1) (upd J i Jb) (upd PB i Pb) (upd DB i Db) F := by
  obtain ⟨c1, p1, l1, e1⟩ := h.reprs
  obtain ⟨c2, p2, l2, e2⟩ := h.files
  have q1 := p1.kept k1
  have q2 := p2.kept k1
  have s1 := (q1.set i (.pointer (some ⟨Jb, 0, none⟩))).kept k2
  have s2 := (q2.far (p := ⟨w0.heap.size + 1, i, none⟩) (by show w0.heap.size ≠ w0.heap.size + 1; omega) (.pointer (some ⟨Jb, 0, none⟩))).kept k2
  have hA24 : A.toList.length = 24 := by simpa using hA.1
  have hr : i * 24 + 24 ≤ n * 24 := by have := Nat.mul_le_mul_right 24 (show i + 1 ≤ n by omega); omega
  obtain ⟨c3, t2, l3, a3, b3⟩ := Blk.setCells A.toList (i * 24) W2 _ s2 (by rw [hA24, l2]; exact hr)
  have t1 := Blk.setCellsFar (b := w0.heap.size) (by omega) A.toList (i * 24) W2 _ s1
  have hlt : ∀ j, j < i → PB j ≠ Pb := fun j hj e => by have := (h.one j hj).1; omega
  have hOne : ∀ {jb pb : Nat} {db : Nat → Nat} {f : Nat}, One W1 jb pb db F f → One (W2.setCells w0.heap.size (i * 24) A.toList) jb pb db F f := fun q =>
    ((q.far q1 (by decide) (by decide) (by decide) i _).kept k2).fars s2 (by decide) (by decide) (by decide) _ _
  have hP2 : Pb < W1.heap.size := by obtain ⟨_, ⟨c, q, _⟩, _⟩ := hO; exact q.lt
  have hs2 := k2.size
  have hs2' : (W1.setCell ⟨w0.heap.size + 1, i, none⟩ (.pointer (some ⟨Jb, 0, none⟩))).heap.size = W1.heap.size := by simp [World.setCell]
  have hs0 := h.kept.size
  have hs1 := k1.size
  refine ⟨Kept.setCells _ _ _ (((h.kept.trans k1).setCell (p := ⟨w0.heap.size + 1, i, none⟩) (by show w0.heap.size ≤ w0.heap.size + 1; omega) _).trans k2) (Nat.le_refl _), ⟨c3, t2, l3.trans l2, fun j hj => ?_⟩, ⟨_, t1, by rw [List.length_set]; exact l1, fun j hj => ?_⟩, fun j hj => ?_, fun j k hj hk e => ?_⟩
  · by_cases ej : j = i
    · rw [ej, upd_same, b3 2 (by omega), b3 23 (by omega)]
      exact ⟨by simpa using hA.2.1, by simpa using hA.2.2.1⟩
    · rw [upd_ne _ _ ej, a3 _ (by omega), a3 _ (by omega)]
      exact e2 j (by omega)
  · by_cases ej : j = i
    · rw [ej, upd_same, List.getElem?_set_self (by omega)]
    · rw [upd_ne _ _ ej, List.getElem?_set_ne (by omega), e1 j (by omega)]
  · rw [setCells_size]
    by_cases ej : j = i
    · rw [ej, upd_same, upd_same, upd_same]
      exact ⟨by omega, by omega, hOne hO⟩
    · rw [upd_ne _ _ ej, upd_ne _ _ ej, upd_ne _ _ ej]
      obtain ⟨o1, o2, o3⟩ := h.one j (by omega)
      exact ⟨by omega, o2, hOne (o3.kept k1)⟩
  · by_cases ej : j = i
    · by_cases ek : k = i
      · rw [ej, ek]
      · rw [ej, upd_same, upd_ne _ _ ek] at e
        exact absurd e.symm (hlt k (by omega))
    · by_cases ek : k = i
      · rw [ek, upd_same, upd_ne _ _ ej] at e
        exact absurd e (hlt j (by omega))
      · rw [upd_ne _ _ ej, upd_ne _ _ ek] at e
        exact h.apart j k (by omega) (by omega) e
/-- the files as the marking wants them -/
theorem Bd.mem {w0 wr W : World} {n cb ob : Nat} {J PB : Nat → Nat} {DB : Nat → Nat → Nat} {F : Ct} {cs os : List Value} (h : Bd w0 wr n n J PB DB F) (hf : Fits n F) (k : Kept wr W) (hb : Blk W cb 206 cs) (hc : cs[10]? = some (.slice (some ⟨w0.heap.size, 0, none⟩) n n)) (hc0 : cs[0]? = some (.pointer (some ⟨ob, 0, none⟩)))
    (ho : Blk W ob 92 os) (ho1 : os[94]? = some (.bool true)) : Mem W cb w0.heap.size ob n J PB DB F (fun _ => false) := by
  obtain ⟨c2, p2, l2, e2⟩ := h.files
  refine ⟨⟨cs, hb, hc, hc0⟩, ⟨os, ho, ho1⟩, ⟨c2, p2.kept k, l2, e2⟩, fun i hi => ?_, fun i hi => ?_, fun i hi p hp => ?_, h.apart, hf⟩
  · obtain ⟨_, _, ⟨c1, h1, r⟩, _⟩ := h.one i hi
    exact ⟨c1, h1.kept k, r⟩
  · obtain ⟨_, _, _, ⟨c1, h1, r⟩, _⟩ := h.one i hi
    exact ⟨c1, h1.kept k, r⟩
  · obtain ⟨_, _, _, _, h3⟩ := h.one i hi
    exact (h3 p hp).kept k
end Go.Proofs.Ytbdchplgefgkjab.tm
