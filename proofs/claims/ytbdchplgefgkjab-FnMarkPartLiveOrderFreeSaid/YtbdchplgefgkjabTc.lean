/-
  tsClone over this seat's program: nil stays nil, any other list of files comes back as fresh rows with the same content.
  Conditions: the files are readable and small.
-/
import Derived.Test.YtbdchplgefgkjabTf2
import Derived.Lib.LazyBuf
namespace Go.Proofs.Ytbdchplgefgkjab.tm
open Go.ChangeShapes Go.WideShapes Go.ChangeAt Go.RowKit
open kit dfs

/-- W2 is W in all blocks from lo on that W has -/
def Above (lo : Nat) (W W2 : World) : Prop := W.heap.size ≤ W2.heap.size ∧ ∀ b, lo ≤ b → b < W.heap.size → W2.heap[b]? = W.heap[b]?
theorem Above.of_kept {lo : Nat} {W W2 : World} (k : Kept W W2) : Above lo W W2 := ⟨k.size, fun b _ hb => k.block b hb⟩
theorem Above.set {lo : Nat} (W : World) {g : Nat} (hg : g < lo) (o : Nat) (u : Value) : Above lo W (W.setCell ⟨g, o, none⟩ u) := ⟨by simp [World.setCell], fun b hb _ => Below.heap_setCell W ⟨g, o, none⟩ u b (by show b ≠ g; omega)⟩
theorem Above.blk {lo g t : Nat} {W W2 : World} {cs : List Value} (h : Above lo W W2) (hb : Blk W g t cs) (hg : lo ≤ g) : Blk W2 g t cs := (h.2 g hg hb.lt).trans hb
theorem Above.trans {lo : Nat} {a b c : World} (h : Above lo a b) (g : Above lo b c) : Above lo a c := ⟨Nat.le_trans h.1 g.1, fun k hk hlt => (g.2 k hk (Nat.lt_of_lt_of_le hlt h.1)).trans (h.2 k hk hlt)⟩
theorem Above.mono {lo lo2 : Nat} {a b : World} (h : Above lo a b) (hl : lo ≤ lo2) : Above lo2 a b := ⟨h.1, fun k hk => h.2 k (Nat.le_trans hl hk)⟩

/-- dependencies in a fresh row -/
def DepsN (W : World) (lo : Nat) (da : Option Addr) (D : List (Nat × Nat)) : Prop :=
  0 < D.length → ∃ h cs, da = some ⟨h, 0, none⟩ ∧ lo ≤ h ∧ Blk W h 25 cs ∧ ∀ q (hq : q < D.length), cs[q * 2]? = some (.int .u32 (D[q].1 : Int)) ∧ cs[q * 2 + 1]? = some (.int .u32 (D[q].2 : Int))
def PartN (W : World) (lo : Nat) (cs : List Value) (j : Nat) (x : Bool × List (Nat × Nat)) : Prop :=
  ∃ da, cs[j * 2]? = some (.bool x.1) ∧ cs[j * 2 + 1]? = some (.slice da x.2.length x.2.length) ∧ (da = none → x.2.length = 0) ∧ x.2.length ≤ 131072 ∧ DepsN W lo da x.2 ∧ ∀ y ∈ x.2, y.1 ≤ 4294967295 ∧ y.2 ≤ 4294967295
def PartsN (W : World) (lo : Nat) (pa : Option Addr) (P : List (Bool × List (Nat × Nat))) : Prop :=
  0 < P.length → ∃ g cs, pa = some ⟨g, 0, none⟩ ∧ lo ≤ g ∧ Blk W g 107 cs ∧ ∀ j, j < P.length → PartN W lo cs j (P.getD j (false, []))
section
variable {W W2 : World} {lo : Nat}
theorem DepsN.above {da : Option Addr} {D : List (Nat × Nat)} (h : DepsN W lo da D) (k : Above lo W W2) : DepsN W2 lo da D := fun hp => by
  obtain ⟨g, cs, e, hg, hb, r⟩ := h hp
  exact ⟨g, cs, e, hg, k.blk hb hg, r⟩
theorem PartN.above {cs : List Value} {j : Nat} {x : Bool × List (Nat × Nat)} (h : PartN W lo cs j x) (k : Above lo W W2) : PartN W2 lo cs j x := by
  obtain ⟨da, h1, h2, h3, h4, h5, h6⟩ := h
  exact ⟨da, h1, h2, h3, h4, h5.above k, h6⟩
theorem PartsN.above {pa : Option Addr} {P : List (Bool × List (Nat × Nat))} (h : PartsN W lo pa P) (k : Above lo W W2) : PartsN W2 lo pa P := fun hp => by
  obtain ⟨g, cs, e, hg, hb, r⟩ := h hp
  exact ⟨g, cs, e, hg, k.blk hb hg, fun j hj => (r j hj).above k⟩
theorem DepsN.mono {lo2 : Nat} {da : Option Addr} {D : List (Nat × Nat)} (h : DepsN W lo da D) (hl : lo2 ≤ lo) : DepsN W lo2 da D := fun hp => by
  obtain ⟨g, cs, e, hg, r⟩ := h hp
  exact ⟨g, cs, e, Nat.le_trans hl hg, r⟩
theorem PartN.mono {lo2 : Nat} {cs : List Value} {j : Nat} {x : Bool × List (Nat × Nat)} (h : PartN W lo cs j x) (hl : lo2 ≤ lo) : PartN W lo2 cs j x := by
  obtain ⟨da, h1, h2, h3, h4, h5, h6⟩ := h
  exact ⟨da, h1, h2, h3, h4, h5.mono hl, h6⟩
theorem PartN.cells {cs cs2 : List Value} {j : Nat} {x : Bool × List (Nat × Nat)} (h : PartN W lo cs j x) (h1 : cs2[j * 2]? = cs[j * 2]?) (h2 : cs2[j * 2 + 1]? = cs[j * 2 + 1]?) : PartN W lo cs2 j x := by
  obtain ⟨da, q1, q2, r⟩ := h
  exact ⟨da, h1.trans q1, h2.trans q2, r⟩
theorem DepsN.toC {da : Option Addr} {D : List (Nat × Nat)} (h : DepsN W lo da D) : DepsC W da D := fun hp => by
  obtain ⟨g, cs, e, hg, hb, r⟩ := h hp
  refine ⟨g, 0, e, hb.lt, fun k hk => ?_⟩
  rw [Nat.zero_add, hb.cell, hb.cell]
  exact r k hk
theorem PartsN.toC {pa : Option Addr} {P : List (Bool × List (Nat × Nat))} (h : PartsN W lo pa P) : PartsC W pa P := fun hp => by
  obtain ⟨g, cs, e, hg, hb, r⟩ := h hp
  refine ⟨g, 0, e, hb.lt, fun j hj => ?_⟩
  obtain ⟨da, h1, h2, h3, h4, h5, h6⟩ := r j hj
  rw [Nat.zero_add]
  exact ⟨da, _, by rw [hb.cell]; exact h1, by rw [hb.cell]; exact h2, Nat.le_refl _, by unfold maxLen; omega, h3, h5.toC, h6⟩
end

/-- the outer row, k files copied -/
structure Fk (w W : World) (n : Nat) (F : Ct) (k : Nat) : Prop where
  kept : Kept w W
  row : ∃ cs, Blk W w.heap.size 104 cs ∧ cs.length = n ∧ (∀ i, i < k → ∃ pa, cs[i]? = some (.slice pa (np F i) (np F i)) ∧ (pa = none → np F i = 0) ∧ PartsN W (w.heap.size + 1) pa (F.getD i [])) ∧ ∀ i, k ≤ i → i < n → cs[i]? = some (.slice none 0 0)
/-- the row of file i's parts, j of them copied -/
structure Pk (w1 W : World) (F : Ct) (i j : Nat) : Prop where
  kept : Kept w1 W
  row : ∃ cs, Blk W w1.heap.size 107 cs ∧ cs.length = np F i * 2 ∧ (∀ p, p < j → PartN W (w1.heap.size + 1) cs p (pt F i p)) ∧ ∀ p, j ≤ p → p < np F i → cs[p * 2 + 1]? = some (.slice none 0 0)
/-- the row of a part's dependencies, q of them copied -/
structure Dk (w2 W : World) (D : List (Nat × Nat)) (q : Nat) : Prop where
  kept : Kept w2 W
  row : ∃ cs, Blk W w2.heap.size 25 cs ∧ cs.length = D.length * 2 ∧ ∀ i (hi : i < D.length), i < q → cs[i * 2]? = some (.int .u32 (D[i].1 : Int)) ∧ cs[i * 2 + 1]? = some (.int .u32 (D[i].2 : Int))
theorem Dk.step {w2 W : World} {D : List (Nat × Nat)} {q : Nat} (h : Dk w2 W D q) (hq : q < D.length) : Dk w2 ((W.setCell ⟨w2.heap.size, q * 2, none⟩ (.int .u32 (D[q].1 : Int))).setCell ⟨w2.heap.size, q * 2 + 1, none⟩ (.int .u32 (D[q].2 : Int))) D (q + 1) := by
  obtain ⟨cs, hb, hl, hc⟩ := h.row
  refine ⟨(h.kept.setCell (Nat.le_refl _) _).setCell (Nat.le_refl _) _, _, (hb.set _ _).set _ _, by simpa using hl, fun i hi hiq => ?_⟩
  by_cases e : i = q
  · subst e
    rw [List.getElem?_set_ne (by omega), List.getElem?_set_self (by omega), List.getElem?_set_self (by rw [List.length_set]; omega)]
    exact ⟨rfl, rfl⟩
  · rw [List.getElem?_set_ne (by omega), List.getElem?_set_ne (by omega), List.getElem?_set_ne (by omega), List.getElem?_set_ne (by omega)]
    exact hc i hi (by omega)
theorem Dk.toN {w2 W : World} {D : List (Nat × Nat)} (h : Dk w2 W D D.length) {lo : Nat} (hlo : lo ≤ w2.heap.size) : DepsN W lo (some ⟨w2.heap.size, 0, none⟩) D := fun _ => by
  obtain ⟨cs, hb, _, hc⟩ := h.row
  exact ⟨_, cs, rfl, hlo, hb, fun q hq => hc q hq hq⟩
/-- part j's flag is copied; then its dependencies -/
theorem Pk.step {w1 W W2 : World} {F : Ct} {i j : Nat} {da : Option Addr} (h : Pk w1 W F i j) (hj : j < np F i) (k : Kept (W.setCell ⟨w1.heap.size, j * 2, none⟩ (.bool (keep F i j))) W2) (hd : DepsN W2 (w1.heap.size + 1) da (deps F i j)) (h0 : da = none → (deps F i j).length = 0)
    (hl2 : (deps F i j).length ≤ 131072) (h32 : ∀ y ∈ deps F i j, y.1 ≤ 4294967295 ∧ y.2 ≤ 4294967295) : Pk w1 (W2.setCell ⟨w1.heap.size, j * 2 + 1, none⟩ (.slice da (deps F i j).length (deps F i j).length)) F i (j + 1) := by
  obtain ⟨cs, hb, hl, hc, hz⟩ := h.row
  have hb1 := (hb.set (j * 2) (.bool (keep F i j))).kept k
  have hA : Above (w1.heap.size + 1) W (W2.setCell ⟨w1.heap.size, j * 2 + 1, none⟩ (.slice da (deps F i j).length (deps F i j).length)) :=
    ((Above.set W (Nat.lt_succ_self _) _ _).trans (Above.of_kept k)).trans (Above.set W2 (Nat.lt_succ_self _) _ _)
  refine ⟨((h.kept.setCell (Nat.le_refl _) _).trans k).setCell (Nat.le_refl _) _, _, hb1.set _ _, by simpa using hl, fun p hp => ?_, fun p hp hpn => ?_⟩
  · by_cases e : p = j
    · subst e
      exact ⟨da, by rw [List.getElem?_set_ne (by omega), List.getElem?_set_self (by omega)]; rfl, by rw [List.getElem?_set_self (by rw [List.length_set]; omega)]; rfl, h0, hl2, hd.above (Above.set W2 (Nat.lt_succ_self _) _ _), h32⟩
    · exact ((hc p (by omega)).above hA).cells (by rw [List.getElem?_set_ne (by omega), List.getElem?_set_ne (by omega)]) (by rw [List.getElem?_set_ne (by omega), List.getElem?_set_ne (by omega)])
  · rw [List.getElem?_set_ne (by omega), List.getElem?_set_ne (by omega)]
    exact hz p (by omega) hpn
/-- part j has no dependencies at all: its row stays nil -/
theorem Pk.skip {w1 W : World} {F : Ct} {i j : Nat} (h : Pk w1 W F i j) (hj : j < np F i) (h0 : (deps F i j).length = 0) : Pk w1 (W.setCell ⟨w1.heap.size, j * 2, none⟩ (.bool (keep F i j))) F i (j + 1) := by
  obtain ⟨cs, hb, hl, hc, hz⟩ := h.row
  have hA : Above (w1.heap.size + 1) W (W.setCell ⟨w1.heap.size, j * 2, none⟩ (.bool (keep F i j))) := Above.set W (Nat.lt_succ_self _) _ _
  refine ⟨h.kept.setCell (Nat.le_refl _) _, _, hb.set _ _, by simpa using hl, fun p hp => ?_, fun p hp hpn => ?_⟩
  · by_cases e : p = j
    · subst e
      have hD : (pt F i p).2 = [] := List.eq_nil_of_length_eq_zero h0
      refine ⟨none, by rw [List.getElem?_set_self (by omega)]; rfl, by rw [List.getElem?_set_ne (by omega), hz p (by omega) hj, hD]; rfl, fun _ => h0, by rw [hD]; simp, fun hp => absurd hp (by rw [hD]; simp), by rw [hD]; simp⟩
    · exact ((hc p (by omega)).above hA).cells (by rw [List.getElem?_set_ne (by omega)]) (by rw [List.getElem?_set_ne (by omega)])
  · rw [List.getElem?_set_ne (by omega)]
    exact hz p (by omega) hpn
theorem Pk.toN {w1 W : World} {F : Ct} {i : Nat} (h : Pk w1 W F i (np F i)) {lo : Nat} (hlo : lo ≤ w1.heap.size) : PartsN W lo (some ⟨w1.heap.size, 0, none⟩) (F.getD i []) := fun _ => by
  obtain ⟨cs, hb, _, hc, _⟩ := h.row
  exact ⟨_, cs, rfl, hlo, hb, fun j hj => (hc j hj).mono (by omega)⟩
theorem Fk.step {w W W2 : World} {n k : Nat} {F : Ct} {pa : Option Addr} (h : Fk w W n F k) (hk : k < n) (kk : Kept W W2) (hp : PartsN W2 (w.heap.size + 1) pa (F.getD k [])) (h0 : pa = none → np F k = 0) : Fk w (W2.setCell ⟨w.heap.size, k, none⟩ (.slice pa (np F k) (np F k))) n F (k + 1) := by
  obtain ⟨cs, hb, hl, hc, hz⟩ := h.row
  have hA : Above (w.heap.size + 1) W2 (W2.setCell ⟨w.heap.size, k, none⟩ (.slice pa (np F k) (np F k))) := Above.set W2 (Nat.lt_succ_self _) _ _
  refine ⟨(h.kept.trans kk).setCell (Nat.le_refl _) _, _, (hb.kept kk).set _ _, by simpa using hl, fun i hi => ?_, fun i hi hin => ?_⟩
  · by_cases e : i = k
    · subst e
      exact ⟨pa, by rw [List.getElem?_set_self (by omega)], h0, hp.above hA⟩
    · obtain ⟨pb, q1, q2, q3⟩ := hc i (by omega)
      exact ⟨pb, by rw [List.getElem?_set_ne (by omega)]; exact q1, q2, (q3.above (Above.of_kept kk)).above hA⟩
  · rw [List.getElem?_set_ne (by omega)]
    exact hz i (by omega) hin
theorem Fk.skip {w W : World} {n k : Nat} {F : Ct} (h : Fk w W n F k) (hk : k < n) (h0 : np F k = 0) : Fk w W n F (k + 1) := by
  obtain ⟨cs, hb, hl, hc, hz⟩ := h.row
  refine ⟨h.kept, cs, hb, hl, fun i hi => ?_, fun i hi hin => hz i (by omega) hin⟩
  by_cases e : i = k
  · subst e
    have hP : F.getD i [] = [] := List.eq_nil_of_length_eq_zero h0
    exact ⟨none, by rw [hz i (by omega) hk, h0], fun _ => h0, fun hp => absurd hp (by rw [hP]; simp)⟩
  · exact hc i (by omega)
theorem Fk.toC {w W : World} {n : Nat} {F : Ct} (h : Fk w W n F n) (hF : F.length = n) (hl : Lens F 131072 n) : FilesC W (some ⟨w.heap.size, 0, none⟩) n F := ⟨hF, fun _ => by
  obtain ⟨cs, hb, _, hc, _⟩ := h.row
  refine ⟨_, 0, rfl, hb.lt, fun i hi => ?_⟩
  obtain ⟨pa, q1, q2, q3⟩ := hc i hi
  have := (hl i hi).1
  rw [Nat.zero_add]
  exact ⟨pa, np F i, by rw [hb.cell]; exact q1, Nat.le_refl _, by unfold maxLen; omega, q2, q3.toC⟩⟩
end Go.Proofs.Ytbdchplgefgkjab.tm
