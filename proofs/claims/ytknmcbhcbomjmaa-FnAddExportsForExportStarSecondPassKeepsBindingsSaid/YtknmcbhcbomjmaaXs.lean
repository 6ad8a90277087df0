/-
  What the second law keeps of the first pass: four rows over this seat's program; what the second pass leaves.
  Conditions: none.
-/
import Derived.Test.YtknmcbhcbomjmaaXa
import Derived.Test.YtknmcbhcbomjmaaWork1
import Derived.Test.YtknmcbhcbomjmaaPush
namespace Go.Proofs.Ytknmcbhcbomjmaa.xs
open Go.ChangeShapes Go.WideShapes Go.ChangeAt Go.RowKit
open kit

/-- an entry's file and place, or zeros -/
def eV (ρ : ByteArray → Option Ent) (a : ByteArray) : Nat × Nat := match ρ a with
  | some e => (e.src, e.j)
  | none => (0, 0)
def vE (V : ByteArray → Value) (ρ : ByteArray → Option Ent) (a : ByteArray) : Value := match ρ a with
  | some _ => V a
  | none => .slice none 0 0
def fN (a : ByteArray) : List Value := [.string a]
def fP (ρ : ByteArray → Option Ent) (a : ByteArray) : List Value := [.bool (ρ a).isSome]
def fR (ρ : ByteArray → Option Ent) (a : ByteArray) : List Value := [.int .u32 ((eV ρ a).1 : Int), .int .u32 ((eV ρ a).2 : Int)]
def fS (ρ : ByteArray → Option Ent) (a : ByteArray) : List Value := [.int .u32 ((eV ρ a).1 : Int)]
theorem look_e (V : ByteArray → Value) (ρ : ByteArray → Option Ent) (a : ByteArray) : (resV V ρ (.string a)).getD (.agg #[.slice none 0 0, .int .u32 0, .int .u32 0, .int .i32 0, .int .u32 0]) = .agg #[vE V ρ a, .int .u32 ((eV ρ a).1 : Int), .int .u32 ((eV ρ a).2 : Int), .int .i32 0, .int .u32 ((eV ρ a).1 : Int)] := by
  unfold vE eV
  simp only [resV, resE]
  rcases h : ρ a with _ | e
  · simp
  · simp
theorem vE_form {L : Lay} {w : World} {V : ByteArray → Value} {ρ : ByteArray → Option Ent} {R : Nat} {β : Nat → Nat × Nat → Bool} {bn : Nat → Nat} (h : St L w V ρ R β bn) (a : ByteArray) : ∃ ad n cap, vE V ρ a = .slice ad n cap := by
  unfold vE
  rcases hr : ρ a with _ | e
  · exact ⟨none, 0, 0, rfl⟩
  · obtain ⟨ad, cap, q⟩ := amb_form (h.amb a e hr)
    exact ⟨ad, _, cap, q⟩
theorem Wk.aside {α β : Type} {W W2 : World} {base : Nat} {E E2 : TypeId} {size size2 : Nat} {f : α → List Value} {f2 : β → List Value} {t t2 : Value} {l : List α} {l2 : List β} {o : Obj} (hA : Wk W base E size f t l) (hB : Wk W base E2 size2 f2 t2 l2) (hne : E ≠ E2) (g : (W.alloc o).grownBy W2 t.ownBlock) : Wk W2 base E2 size2 f2 t2 l2 := by
  refine Wk.grown (hB.kept ((Kept.refl _).alloc o)) g ?_
  rcases h : t2.ownBlock with _ | k
  · exact .inl rfl
  · refine .inr fun e => ?_
    exact own_apart hA.2 hB.2 hne k e.symm h
/-- the four rows: names, presences, symbols, files -/
structure Four (w3 W : World) (ρ : ByteArray → Option Ent) (l1 l2 l3 l4 : List ByteArray) (t10 t11 t12 t13 : Value) : Prop where
  kept : Kept w3 W
  nm : Wk W w3.heap.size 9 1 fN t10 l1
  pr : Wk W w3.heap.size 4 1 (fP ρ) t11 l2
  rf : Wk W w3.heap.size 44 2 (fR ρ) t12 l3
  sr : Wk W w3.heap.size 23 1 (fS ρ) t13 l4
section
variable {w3 W W2 : World} {ρ : ByteArray → Option Ent} {l1 l2 l3 l4 : List ByteArray} {t10 t11 t12 t13 v : Value} {a : ByteArray} {o : Obj}
theorem Four.start (w3 : World) (ρ : ByteArray → Option Ent) : Four w3 w3 ρ [] [] [] [] (.slice none 0 0) (.slice none 0 0) (.slice none 0 0) (.slice none 0 0) := ⟨Kept.refl _, Wk.nil _, Wk.nil _, Wk.nil _, Wk.nil _⟩
theorem Four.kept2 (h : Four w3 W ρ l1 l2 l3 l4 t10 t11 t12 t13) (k : Kept W W2) : Four w3 W2 ρ l1 l2 l3 l4 t10 t11 t12 t13 := ⟨h.kept.trans k, h.nm.kept k, h.pr.kept k, h.rf.kept k, h.sr.kept k⟩
theorem Four.p1 (h : Four w3 W ρ l1 l2 l3 l4 t10 t11 t12 t13) (ho : W2.ownsRow w3.heap.size 9 1 v (l1.length + 1) (l1.flatMap fN ++ [.string a])) (g : (W.alloc o).grownBy W2 t10.ownBlock) : Four w3 W2 ρ (l1 ++ [a]) l2 l3 l4 v t11 t12 t13 :=
  ⟨keptGrown (h.kept.alloc o) g (fun k hk => (h.nm.2.lt k hk).1), Wk.of_own ho (by simp) (by simp [fN]), Wk.aside h.nm h.pr (by decide) g, Wk.aside h.nm h.rf (by decide) g, Wk.aside h.nm h.sr (by decide) g⟩
theorem Four.p2 (h : Four w3 W ρ l1 l2 l3 l4 t10 t11 t12 t13) (ho : W2.ownsRow w3.heap.size 4 1 v (l2.length + 1) (l2.flatMap (fP ρ) ++ [.bool (ρ a).isSome])) (g : (W.alloc o).grownBy W2 t11.ownBlock) : Four w3 W2 ρ l1 (l2 ++ [a]) l3 l4 t10 v t12 t13 :=
  ⟨keptGrown (h.kept.alloc o) g (fun k hk => (h.pr.2.lt k hk).1), Wk.aside h.pr h.nm (by decide) g, Wk.of_own ho (by simp) (by simp [fP]), Wk.aside h.pr h.rf (by decide) g, Wk.aside h.pr h.sr (by decide) g⟩
theorem Four.p3 (h : Four w3 W ρ l1 l2 l3 l4 t10 t11 t12 t13) (ho : W2.ownsRow w3.heap.size 44 2 v (l3.length + 1) (l3.flatMap (fR ρ) ++ [.int .u32 ((eV ρ a).1 : Int), .int .u32 ((eV ρ a).2 : Int)])) (g : (W.alloc o).grownBy W2 t12.ownBlock) : Four w3 W2 ρ l1 l2 (l3 ++ [a]) l4 t10 t11 v t13 :=
  ⟨keptGrown (h.kept.alloc o) g (fun k hk => (h.rf.2.lt k hk).1), Wk.aside h.rf h.nm (by decide) g, Wk.aside h.rf h.pr (by decide) g, Wk.of_own ho (by simp) (by simp [fR]), Wk.aside h.rf h.sr (by decide) g⟩
theorem Four.p4 (h : Four w3 W ρ l1 l2 l3 l4 t10 t11 t12 t13) (ho : W2.ownsRow w3.heap.size 23 1 v (l4.length + 1) (l4.flatMap (fS ρ) ++ [.int .u32 ((eV ρ a).1 : Int)])) (g : (W.alloc o).grownBy W2 t13.ownBlock) : Four w3 W2 ρ l1 l2 l3 (l4 ++ [a]) t10 t11 t12 v :=
  ⟨keptGrown (h.kept.alloc o) g (fun k hk => (h.sr.2.lt k hk).1), Wk.aside h.sr h.nm (by decide) g, Wk.aside h.sr h.pr (by decide) g, Wk.aside h.sr h.rf (by decide) g, Wk.of_own ho (by simp) (by simp [fS])⟩
/-- the rows behind the second pass -/
structure Fin4 (W : World) (ρ : ByteArray → Option Ent) (base : Nat) (ls : List ByteArray) (t10 t11 t12 t13 : Value) : Prop where
  nm : Wk W base 9 1 fN t10 ls
  pr : Wk W base 4 1 (fP ρ) t11 ls
  rf : Wk W base 44 2 (fR ρ) t12 ls
  sr : Wk W base 23 1 (fS ρ) t13 ls
theorem Fin4.kept {base : Nat} {ls : List ByteArray} (h : Fin4 W ρ base ls t10 t11 t12 t13) (k : Kept W W2) : Fin4 W2 ρ base ls t10 t11 t12 t13 := ⟨h.nm.kept k, h.pr.kept k, h.rf.kept k, h.sr.kept k⟩
theorem Wk.tn {α : Type} {L : Lay} {base : Nat} {E : TypeId} {size : Nat} {f : α → List Value} {t : Value} {l : List α} (A : Apt L) (h : Wk W base E size f t l) (hb : L.B0 ≤ base) (hE : E ≠ 53) (tn : Tn L none W W2) : Wk W2 base E size f t l := by
  refine ⟨h.1, own_blocks h.2 fun g hg hbg hl => tn.block g hl (by have := A.res.1; omega) (fun i hi => by have := (A.ib i hi).1; omega) (by simp) fun _ => ?_⟩
  obtain ⟨_, _, cs, fr, hh⟩ := own_is h.2 hg
  rintro ⟨cs2, fr2, q⟩
  rw [hh] at q
  injection q with q
  injection q with _ q
  exact hE q
theorem Four.fin {L : Lay} {ls : List ByteArray} (h : Four w3 W ρ ls ls ls ls t10 t11 t12 t13) (A : Apt L) (hb : L.B0 ≤ w3.heap.size) (tn : Tn L none W W2) : Fin4 W2 ρ w3.heap.size ls t10 t11 t12 t13 :=
  ⟨Wk.tn A h.nm hb (by decide) tn, Wk.tn A h.pr hb (by decide) tn, Wk.tn A h.rf hb (by decide) tn, Wk.tn A h.sr hb (by decide) tn⟩
end
theorem flat_at {α : Type} {size : Nat} {f : α → List Value} (hf : ∀ x, (f x).length = size) (d : α) : ∀ (l : List α) (k i : Nat), k < l.length → i < size → (l.flatMap f)[k * size + i]? = (f (l.getD k d))[i]? := by
  intro l
  induction l with
  | nil => intro k i hk; exact absurd hk (by simp)
  | cons x l ih =>
    intro k i hk hi
    rw [List.flatMap_cons]
    cases k with
    | zero => rw [List.getElem?_append_left (by rw [hf]; omega)]; simp
    | succ k =>
      rw [List.getElem?_append_right (by rw [hf, Nat.succ_mul]; omega), hf, show (k + 1) * size + i - size = k * size + i by rw [Nat.succ_mul]; omega, ih k i (by simpa using hk) hi]
      simp
/-- one element's cells in a row -/
theorem Wk.at_ {α : Type} {W : World} {base : Nat} {E : TypeId} {size : Nat} {f : α → List Value} {t : Value} {l : List α} (hf : ∀ x, (f x).length = size) (h : Wk W base E size f t l) (d : α) {k : Nat} (hk : k < l.length) :
    ∃ g c, t = .slice (some ⟨g, 0, none⟩) l.length c ∧ l.length ≤ c ∧ c ≤ maxLen ∧ ∀ i, i < size → W.cell? ⟨g, k * size + i, none⟩ = (f (l.getD k d))[i]? := by
  obtain ⟨_, hl, h2⟩ := h
  rcases h2 with ⟨_, e⟩ | ⟨g, cap, cur, ev, hb, hh, hn, hc, hs, ht⟩
  · omega
  · refine ⟨g, cap, ev, hn, hc, fun i hi => ?_⟩
    rw [cell_of_row W g _ cur E (0, 0) hh]
    have hlt : k * size + i < l.length * size := by
      have : (k + 1) * size ≤ l.length * size := Nat.mul_le_mul_right _ hk
      rw [Nat.succ_mul] at this
      omega
    have h3 := congrArg (fun x => x[k * size + i]?) ht
    simp only [List.getElem?_take] at h3
    rw [if_pos hlt, Array.getElem?_toList] at h3
    rw [h3, flat_at hf d l k i hk hi]
theorem again_kept {w w1 w2 W W2 : World} {n cb : Nat} {q : Pl} {fs : List EF} {sz : Nat → Nat} (h : Bd w w1 n n q fs) (k : Kept w1 w2) (kw : Kept w W) (tn : Tn (layOf w w2 cb n q fs sz) none W W2) : Kept w W2 := by
  refine ⟨tn.os.trans kw.os, tn.tape.trans kw.tape, tn.output.trans kw.output, Nat.le_trans kw.size tn.size, fun b hb => ?_⟩
  have h1 := h.kept.size
  have h2 := k.size
  refine (tn.block b (Nat.lt_of_lt_of_le hb kw.size) (by show b ≠ w2.heap.size; omega) (fun i hi => ?_) (by simp) (fun c => ?_)).trans (kw.block b hb)
  · have := h.low i hi
    show b ≠ q.I i
    omega
  · have c : w2.heap.size + 1 ≤ b := c
    omega
theorem eV_same {S : ByteArray → Prop} {B : Nat} {ρ ρ2 : ByteArray → Option Ent} (h : Stp S B ρ ρ2) (hS : ∀ a, S a → (ρ a).isSome = true) (a : ByteArray) : (ρ2 a).isSome = (ρ a).isSome ∧ eV ρ2 a = eV ρ a := by
  refine ⟨h.same hS a, ?_⟩
  have h1 := h.same hS a
  unfold eV
  rcases hr : ρ a with _ | e
  · rw [hr] at h1
    rcases hr2 : ρ2 a with _ | e2
    · rfl
    · rw [hr2] at h1; cases h1
  · obtain ⟨e2, q1, q2, q3, _⟩ := h.keep a e hr
    rw [q1]
    simp only [q2, q3]
end Go.Proofs.Ytknmcbhcbomjmaa.xs
