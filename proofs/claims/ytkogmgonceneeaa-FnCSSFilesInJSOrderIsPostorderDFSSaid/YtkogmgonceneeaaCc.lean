/-
  jsClone over this seat's program: the memory that it lays. Nil stays nil, any other list of files comes back as fresh rows with the same content.
  Conditions: none.
-/
import Derived.Test.YtkogmgonceneeaaCf2
import Derived.Lib.LazyBuf
namespace Go.Proofs.Ytkogmgonceneeaa.css
open Go.ChangeShapes Go.WideShapes Go.ChangeAt Go.RowKit
open kit dfs

/-- W2 is W in all blocks from lo on that W has -/
def Above (lo : Nat) (W W2 : World) : Prop := W.heap.size ≤ W2.heap.size ∧ ∀ b, lo ≤ b → b < W.heap.size → W2.heap[b]? = W.heap[b]?
theorem Above.of_kept {lo : Nat} {W W2 : World} (k : Kept W W2) : Above lo W W2 := ⟨k.size, fun b _ hb => k.block b hb⟩
theorem Above.set {lo : Nat} (W : World) {g : Nat} (hg : g < lo) (o : Nat) (u : Value) : Above lo W (W.setCell ⟨g, o, none⟩ u) := ⟨by simp [World.setCell], fun b hb _ => Below.heap_setCell W ⟨g, o, none⟩ u b (by show b ≠ g; omega)⟩
theorem Above.blk {lo g t : Nat} {W W2 : World} {cs : List Value} (h : Above lo W W2) (hb : Blk W g t cs) (hg : lo ≤ g) : Blk W2 g t cs := (h.2 g hg hb.lt).trans hb
theorem Above.trans {lo : Nat} {a b c : World} (h : Above lo a b) (g : Above lo b c) : Above lo a c := ⟨Nat.le_trans h.1 g.1, fun k hk hlt => (g.2 k hk (Nat.lt_of_lt_of_le hlt h.1)).trans (h.2 k hk hlt)⟩
theorem Above.mono {lo lo2 : Nat} {a b : World} (h : Above lo a b) (hl : lo ≤ lo2) : Above lo2 a b := ⟨h.1, fun k hk => h.2 k (Nat.le_trans hl hk)⟩

/-- imports in a fresh row -/
def ImpsN (W : World) (lo : Nat) (da : Option Addr) (D : List Imp) : Prop :=
  0 < D.length → ∃ h cs, da = some ⟨h, 0, none⟩ ∧ lo ≤ h ∧ Blk W h 97 cs ∧ ∀ q (hq : q < D.length), cs[q * 2]? = some (.bool D[q].1) ∧ cs[q * 2 + 1]? = some (.int .u32 (D[q].2 : Int))
def PartN (W : World) (lo : Nat) (cs : List Value) (j : Nat) (x : List Imp) : Prop :=
  ∃ da, cs[j]? = some (.slice da x.length x.length) ∧ (da = none → x.length = 0) ∧ x.length ≤ 131072 ∧ ImpsN W lo da x ∧ ∀ y ∈ x, y.2 ≤ 4294967295
def PartsN (W : World) (lo : Nat) (pa : Option Addr) (P : List (List Imp)) : Prop :=
  0 < P.length → ∃ g cs, pa = some ⟨g, 0, none⟩ ∧ lo ≤ g ∧ Blk W g 95 cs ∧ ∀ j, j < P.length → PartN W lo cs j (P.getD j [])
section
variable {W W2 : World} {lo : Nat}
theorem ImpsN.above {da : Option Addr} {D : List Imp} (h : ImpsN W lo da D) (k : Above lo W W2) : ImpsN W2 lo da D := fun hp => by
  obtain ⟨g, cs, e, hg, hb, r⟩ := h hp
  exact ⟨g, cs, e, hg, k.blk hb hg, r⟩
theorem PartN.above {cs : List Value} {j : Nat} {x : List Imp} (h : PartN W lo cs j x) (k : Above lo W W2) : PartN W2 lo cs j x := by
  obtain ⟨da, h2, h3, h4, h5, h6⟩ := h
  exact ⟨da, h2, h3, h4, h5.above k, h6⟩
theorem PartsN.above {pa : Option Addr} {P : List (List Imp)} (h : PartsN W lo pa P) (k : Above lo W W2) : PartsN W2 lo pa P := fun hp => by
  obtain ⟨g, cs, e, hg, hb, r⟩ := h hp
  exact ⟨g, cs, e, hg, k.blk hb hg, fun j hj => (r j hj).above k⟩
theorem ImpsN.mono {lo2 : Nat} {da : Option Addr} {D : List Imp} (h : ImpsN W lo da D) (hl : lo2 ≤ lo) : ImpsN W lo2 da D := fun hp => by
  obtain ⟨g, cs, e, hg, r⟩ := h hp
  exact ⟨g, cs, e, Nat.le_trans hl hg, r⟩
theorem PartN.mono {lo2 : Nat} {cs : List Value} {j : Nat} {x : List Imp} (h : PartN W lo cs j x) (hl : lo2 ≤ lo) : PartN W lo2 cs j x := by
  obtain ⟨da, h2, h3, h4, h5, h6⟩ := h
  exact ⟨da, h2, h3, h4, h5.mono hl, h6⟩
theorem PartN.cells {cs cs2 : List Value} {j : Nat} {x : List Imp} (h : PartN W lo cs j x) (h1 : cs2[j]? = cs[j]?) : PartN W lo cs2 j x := by
  obtain ⟨da, q1, r⟩ := h
  exact ⟨da, h1.trans q1, r⟩
theorem ImpsN.toC {da : Option Addr} {D : List Imp} (h : ImpsN W lo da D) : ImpsC W da D := fun hp => by
  obtain ⟨g, cs, e, hg, hb, r⟩ := h hp
  refine ⟨g, 0, e, hb.lt, fun k hk => ?_⟩
  rw [Nat.zero_add, hb.cell, hb.cell]
  exact r k hk
theorem PartsN.toC {pa : Option Addr} {P : List (List Imp)} (h : PartsN W lo pa P) : PartsC W pa P := fun hp => by
  obtain ⟨g, cs, e, hg, hb, r⟩ := h hp
  refine ⟨g, 0, e, hb.lt, fun j hj => ?_⟩
  obtain ⟨da, h2, h3, h4, h5, h6⟩ := r j hj
  rw [Nat.zero_add]
  exact ⟨da, _, by rw [hb.cell]; exact h2, Nat.le_refl _, by unfold maxLen; omega, h3, h5.toC, h6⟩
end

/-- the outer row, k files copied -/
structure Fk (w W : World) (n : Nat) (F : Ct) (k : Nat) : Prop where
  kept : Kept w W
  row : ∃ cs, Blk W w.heap.size 94 cs ∧ cs.length = n * 3 ∧ (∀ i, i < k → ∃ pa, cs[i * 3]? = some (.slice pa (np F i) (np F i)) ∧ cs[i * 3 + 1]? = some (.bool (hasC F i)) ∧ cs[i * 3 + 2]? = some (.int .u32 (cssOf F i : Int)) ∧ cssOf F i ≤ 4294967295 ∧ (pa = none → np F i = 0) ∧ PartsN W (w.heap.size + 1) pa (fl F i).1) ∧
    ∀ i, k ≤ i → i < n → cs[i * 3]? = some (.slice none 0 0)
/-- the row of file i's parts, j of them copied -/
structure Pk (w1 W : World) (F : Ct) (i j : Nat) : Prop where
  kept : Kept w1 W
  row : ∃ cs, Blk W w1.heap.size 95 cs ∧ cs.length = np F i ∧ (∀ p, p < j → PartN W (w1.heap.size + 1) cs p (imps F i p)) ∧ ∀ p, j ≤ p → p < np F i → cs[p]? = some (.slice none 0 0)
/-- the row of a part's imports, q of them copied -/
structure Dk (w2 W : World) (D : List Imp) (q : Nat) : Prop where
  kept : Kept w2 W
  row : ∃ cs, Blk W w2.heap.size 97 cs ∧ cs.length = D.length * 2 ∧ ∀ i (hi : i < D.length), i < q → cs[i * 2]? = some (.bool D[i].1) ∧ cs[i * 2 + 1]? = some (.int .u32 (D[i].2 : Int))
theorem Dk.step {w2 W : World} {D : List Imp} {q : Nat} (h : Dk w2 W D q) (hq : q < D.length) : Dk w2 ((W.setCell ⟨w2.heap.size, q * 2, none⟩ (.bool D[q].1)).setCell ⟨w2.heap.size, q * 2 + 1, none⟩ (.int .u32 (D[q].2 : Int))) D (q + 1) := by
  obtain ⟨cs, hb, hl, hc⟩ := h.row
  refine ⟨(h.kept.setCell (Nat.le_refl _) _).setCell (Nat.le_refl _) _, _, (hb.set _ _).set _ _, by simpa using hl, fun i hi hiq => ?_⟩
  by_cases e : i = q
  · subst e
    rw [List.getElem?_set_ne (by omega), List.getElem?_set_self (by omega), List.getElem?_set_self (by rw [List.length_set]; omega)]
    exact ⟨rfl, rfl⟩
  · rw [List.getElem?_set_ne (by omega), List.getElem?_set_ne (by omega), List.getElem?_set_ne (by omega), List.getElem?_set_ne (by omega)]
    exact hc i hi (by omega)
theorem Dk.toN {w2 W : World} {D : List Imp} (h : Dk w2 W D D.length) {lo : Nat} (hlo : lo ≤ w2.heap.size) : ImpsN W lo (some ⟨w2.heap.size, 0, none⟩) D := fun _ => by
  obtain ⟨cs, hb, _, hc⟩ := h.row
  exact ⟨_, cs, rfl, hlo, hb, fun q hq => hc q hq hq⟩
/-- part j's imports are copied -/
theorem Pk.step {w1 W W2 : World} {F : Ct} {i j : Nat} {da : Option Addr} (h : Pk w1 W F i j) (hj : j < np F i) (k : Kept W W2) (hd : ImpsN W2 (w1.heap.size + 1) da (imps F i j)) (h0 : da = none → (imps F i j).length = 0)
    (hl2 : (imps F i j).length ≤ 131072) (h32 : ∀ y ∈ imps F i j, y.2 ≤ 4294967295) : Pk w1 (W2.setCell ⟨w1.heap.size, j, none⟩ (.slice da (imps F i j).length (imps F i j).length)) F i (j + 1) := by
  obtain ⟨cs, hb, hl, hc, hz⟩ := h.row
  have hA : Above (w1.heap.size + 1) W (W2.setCell ⟨w1.heap.size, j, none⟩ (.slice da (imps F i j).length (imps F i j).length)) := (Above.of_kept k).trans (Above.set W2 (Nat.lt_succ_self _) _ _)
  refine ⟨(h.kept.trans k).setCell (Nat.le_refl _) _, _, (hb.kept k).set _ _, by simpa using hl, fun p hp => ?_, fun p hp hpn => ?_⟩
  · by_cases e : p = j
    · subst e
      exact ⟨da, by rw [List.getElem?_set_self (by omega)], h0, hl2, hd.above (Above.set W2 (Nat.lt_succ_self _) _ _), h32⟩
    · exact ((hc p (by omega)).above hA).cells (by rw [List.getElem?_set_ne (by omega)])
  · rw [List.getElem?_set_ne (by omega)]
    exact hz p (by omega) hpn
/-- part j is nil: its row stays nil -/
theorem Pk.skip {w1 W : World} {F : Ct} {i j : Nat} (h : Pk w1 W F i j) (hj : j < np F i) (h0 : (imps F i j).length = 0) : Pk w1 W F i (j + 1) := by
  obtain ⟨cs, hb, hl, hc, hz⟩ := h.row
  refine ⟨h.kept, cs, hb, hl, fun p hp => ?_, fun p hp hpn => hz p (by omega) hpn⟩
  by_cases e : p = j
  · subst e
    have hD : imps F i p = [] := List.eq_nil_of_length_eq_zero h0
    exact ⟨none, by rw [hz p (by omega) hj, hD]; rfl, fun _ => h0, by rw [hD]; simp, fun hp => absurd hp (by rw [hD]; simp), by rw [hD]; simp⟩
  · exact hc p (by omega)
theorem Pk.toN {w1 W : World} {F : Ct} {i : Nat} (h : Pk w1 W F i (np F i)) {lo : Nat} (hlo : lo ≤ w1.heap.size) : PartsN W lo (some ⟨w1.heap.size, 0, none⟩) (fl F i).1 := fun _ => by
  obtain ⟨cs, hb, _, hc, _⟩ := h.row
  exact ⟨_, cs, rfl, hlo, hb, fun j hj => (hc j hj).mono (by omega)⟩
/-- file k's flag and number are laid -/
def flag (W : World) (g : Nat) (F : Ct) (k : Nat) : World := (W.setCell ⟨g, k * 3 + 1, none⟩ (.bool (hasC F k))).setCell ⟨g, k * 3 + 2, none⟩ (.int .u32 (cssOf F k : Int))
theorem Fk.step {w W W2 : World} {n k : Nat} {F : Ct} {pa : Option Addr} (h : Fk w W n F k) (hk : k < n) (hc32 : cssOf F k ≤ 4294967295) (kk : Kept (flag W w.heap.size F k) W2) (hp : PartsN W2 (w.heap.size + 1) pa (fl F k).1) (h0 : pa = none → np F k = 0) : Fk w (W2.setCell ⟨w.heap.size, k * 3, none⟩ (.slice pa (np F k) (np F k))) n F (k + 1) := by
  obtain ⟨cs, hb, hl, hc, hz⟩ := h.row
  have hA0 : Above (w.heap.size + 1) W (flag W w.heap.size F k) := (Above.set W (Nat.lt_succ_self _) _ _).trans (Above.set _ (Nat.lt_succ_self _) _ _)
  have hA : Above (w.heap.size + 1) W2 (W2.setCell ⟨w.heap.size, k * 3, none⟩ (.slice pa (np F k) (np F k))) := Above.set W2 (Nat.lt_succ_self _) _ _
  have hb1 : Blk (flag W w.heap.size F k) w.heap.size 94 ((cs.set (k * 3 + 1) (.bool (hasC F k))).set (k * 3 + 2) (.int .u32 (cssOf F k : Int))) := (hb.set _ _).set _ _
  refine ⟨(((h.kept.setCell (Nat.le_refl _) _).setCell (Nat.le_refl _) _).trans kk).setCell (Nat.le_refl _) _, _, (hb1.kept kk).set _ _, by simpa using hl, fun i hi => ?_, fun i hi hin => ?_⟩
  · by_cases e : i = k
    · subst e
      exact ⟨pa, by rw [List.getElem?_set_self (by simp; omega)], by rw [List.getElem?_set_ne (by omega), List.getElem?_set_ne (by omega), List.getElem?_set_self (by omega)], by rw [List.getElem?_set_ne (by omega), List.getElem?_set_self (by simp; omega)], hc32, h0, hp.above hA⟩
    · obtain ⟨pb, q1, q2, q3, q4, q5, q6⟩ := hc i (by omega)
      refine ⟨pb, ?_, ?_, ?_, q4, q5, ((q6.above hA0).above (Above.of_kept kk)).above hA⟩
      · rw [List.getElem?_set_ne (by omega), List.getElem?_set_ne (by omega), List.getElem?_set_ne (by omega)]; exact q1
      · rw [List.getElem?_set_ne (by omega), List.getElem?_set_ne (by omega), List.getElem?_set_ne (by omega)]; exact q2
      · rw [List.getElem?_set_ne (by omega), List.getElem?_set_ne (by omega), List.getElem?_set_ne (by omega)]; exact q3
  · rw [List.getElem?_set_ne (by omega), List.getElem?_set_ne (by omega), List.getElem?_set_ne (by omega)]
    exact hz i (by omega) hin
theorem Fk.skip {w W : World} {n k : Nat} {F : Ct} (h : Fk w W n F k) (hk : k < n) (hc32 : cssOf F k ≤ 4294967295) (h0 : np F k = 0) : Fk w (flag W w.heap.size F k) n F (k + 1) := by
  obtain ⟨cs, hb, hl, hc, hz⟩ := h.row
  have hA0 : Above (w.heap.size + 1) W (flag W w.heap.size F k) := (Above.set W (Nat.lt_succ_self _) _ _).trans (Above.set _ (Nat.lt_succ_self _) _ _)
  refine ⟨(h.kept.setCell (Nat.le_refl _) _).setCell (Nat.le_refl _) _, _, (hb.set _ _).set _ _, by simpa using hl, fun i hi => ?_, fun i hi hin => ?_⟩
  · by_cases e : i = k
    · subst e
      have hP : (fl F i).1 = [] := List.eq_nil_of_length_eq_zero h0
      exact ⟨none, by rw [List.getElem?_set_ne (by omega), List.getElem?_set_ne (by omega), hz i (by omega) hk, h0], by rw [List.getElem?_set_ne (by omega), List.getElem?_set_self (by omega)], by rw [List.getElem?_set_self (by simp; omega)], hc32, fun _ => h0, fun hp => absurd hp (by rw [hP]; simp)⟩
    · obtain ⟨pb, q1, q2, q3, q4, q5, q6⟩ := hc i (by omega)
      refine ⟨pb, ?_, ?_, ?_, q4, q5, q6.above hA0⟩
      · rw [List.getElem?_set_ne (by omega), List.getElem?_set_ne (by omega)]; exact q1
      · rw [List.getElem?_set_ne (by omega), List.getElem?_set_ne (by omega)]; exact q2
      · rw [List.getElem?_set_ne (by omega), List.getElem?_set_ne (by omega)]; exact q3
  · rw [List.getElem?_set_ne (by omega), List.getElem?_set_ne (by omega)]
    exact hz i (by omega) hin
theorem Fk.toC {w W : World} {n : Nat} {F : Ct} (h : Fk w W n F n) (hF : F.length = n) (hl : Lens F 131072 n) : FilesC W (some ⟨w.heap.size, 0, none⟩) n F := ⟨hF, fun _ => by
  obtain ⟨cs, hb, _, hc, _⟩ := h.row
  refine ⟨_, 0, rfl, hb.lt, fun i hi => ?_⟩
  obtain ⟨pa, q1, q2, q3, q4, q5, q6⟩ := hc i hi
  have := (hl i hi).1
  rw [Nat.zero_add]
  exact ⟨pa, np F i, by rw [hb.cell]; exact q1, by rw [hb.cell]; exact q2, by rw [hb.cell]; exact q3, q4, Nat.le_refl _, by unfold maxLen; omega, q5, q6.toC⟩⟩
end Go.Proofs.Ytkogmgonceneeaa.css
