/-
  The walk of FnMarkPartLiveOrderFree over this seat's program.
  Conditions: the files are readable.
-/
import Derived.Test.YtbdchplgefgkjabTs
import Derived.Test.YtbdchplgefgkjabTc2
import Derived.Test.YtbdchplgefgkjabTg2
namespace Go.Proofs.Ytbdchplgefgkjab.tm
open Go.ChangeShapes Go.WideShapes Go.ChangeAt Go.RowKit
open kit dfs

def agg2 (x : Nat × Nat) : Value := .agg #[.int .u32 (x.1 : Int), .int .u32 (x.2 : Int)]
theorem okB_iff {n : Nat} {F : Ct} {x y : Nat} (h : okB n F x y = true) : In n F (.inr (x, y)) := by
  have h2 : x < n ∧ y < np F x := of_decide_eq_true (show decide (x < n ∧ y < np F x) = true from h)
  exact h2
/-- the marks of the program and of the model agree -/
theorem agree {F : Ct} {x y : Nat × Nat} {d1 d2 R1 R2 : Nd → Bool} (h1 : Dfs (succ F) (.inr x) (fun _ => false) d1) (h2 : Dfs (succ F) (.inr y) d1 d2) (g1 : ∀ v, R1 v = true ↔ (fun _ => false) v = true ∨ Rch (succ F) (.inr x) v) (g2 : ∀ v, R2 v = true ↔ R1 v = true ∨ Rch (succ F) (.inr y) v) : ∀ v, d2 v = R2 v := fun v => by
  have i1 := h1.iff (fun _ h => by cases h) v
  have i2 := h2.iff (h1.closedAll (fun _ h => by cases h)) v
  have j1 := g1 v
  have j2 := g2 v
  cases e : d2 v
  · cases e2 : R2 v
    · rfl
    · have := i2.2 ((j2.1 e2).elim (fun c => .inl (i1.2 (j1.1 c))) .inr)
      rw [e] at this; cases this
  · exact (j2.2 ((i2.1 e).elim (fun c => .inl (j1.2 (i1.1 c))) .inr)).symm
theorem agree2 {F : Ct} {x y : Nat × Nat} {d1 d2 R1 R2 : Nd → Bool} (h1 : Dfs (succ F) (.inr y) (fun _ => false) d1) (h2 : Dfs (succ F) (.inr x) d1 d2) (g1 : ∀ v, R1 v = true ↔ (fun _ => false) v = true ∨ Rch (succ F) (.inr x) v) (g2 : ∀ v, R2 v = true ↔ R1 v = true ∨ Rch (succ F) (.inr y) v) : ∀ v, d2 v = R2 v := fun v => by
  have i1 := h1.iff (fun _ h => by cases h) v
  have i2 := h2.iff (h1.closedAll (fun _ h => by cases h)) v
  have j1 := g1 v
  have j2 := g2 v
  cases e : d2 v
  · cases e2 : R2 v
    · rfl
    · have := i2.2 ((j2.1 e2).elim (fun c => (j1.1 c).elim (fun c => by cases c) .inr) (fun c => .inl (i1.2 (.inr c))))
      rw [e] at this; cases this
  · exact (j2.2 ((i2.1 e).elim (fun c => (i1.1 c).elim (fun c => by cases c) .inr) (fun c => .inl (j1.2 (.inr c))))).symm
def Got (w : World) (gq n : Nat) (d : Nd → Bool) (t : Value) (W : World) : Prop := ∃ k : Nat, k ≤ n ∧ t = .int .i64 (k : Int) ∧ Bools W gq n (fun i => if i < k then d (.inl i) else false) ∧ Kept w W
theorem Got.step {W : World} {gq n k : Nat} {d : Nd → Bool} (h : Bools W gq n (fun i => if i < k then d (.inl i) else false)) (hk : k < n) : Bools (W.setCell ⟨gq, k, none⟩ (.bool (d (.inl k)))) gq n (fun i => if i < k + 1 then d (.inl i) else false) := by
  refine (h.set hk (d (.inl k))).congr (fun x _ => ?_)
  by_cases e : x = k
  · rw [if_pos e, if_pos (by omega), e]
  · rw [if_neg e]
    by_cases c : x < k
    · rw [if_pos c, if_pos (by omega)]
    · rw [if_neg c, if_neg (by omega)]

/-- one side: the files built, marked at x and then at y, their marks read out -/
structure Side (w W : World) (n : Nat) (F : Ct) (x y : Nat × Nat) (cb rb gq : Nat) (d : Nd → Bool) : Prop where
  mem : ∃ LB ob J PB DB, Mem W cb LB ob n J PB DB F d ∧ ∀ i, i < n → W.cell? ⟨rb, i, none⟩ = some (.pointer (some ⟨J i, 0, none⟩))
  dfs : ∃ d1, Dfs (succ F) (.inr x) (fun _ => false) d1 ∧ Dfs (succ F) (.inr y) d1 d
  got : Bools W gq n (fun i => d (.inl i))
  kept : Kept w W
theorem Side.kept2 {w W W2 : World} {n : Nat} {F : Ct} {x y : Nat × Nat} {cb rb gq : Nat} {d : Nd → Bool} (h : Side w W n F x y cb rb gq d) (k : Kept W W2) : Side w W2 n F x y cb rb gq d := by
  obtain ⟨⟨LB, ob, J, PB, DB, h1, h2⟩, h3, h4, h5⟩ := h
  exact ⟨⟨LB, ob, J, PB, DB, h1.kept k, fun i hi => k.cell (h2 i hi)⟩, h3, h4.kept k, h5.trans k⟩
theorem lowMB {w0 w' W W2 : World} {n : Nat} {J PB : Nat → Nat} {DB : Nat → Nat → Nat} {F : Ct} (hB : Bd w0 w' n n J PB DB F) (hk : Kept w0 W) (hT : Turn W W2 (MB n w0.heap.size PB)) : Kept w0 W2 :=
  (Below.mono hk (Nat.le_refl _)).trans (hT.below (fun k hk => hk.elim (fun e => by rw [e]; exact Nat.le_refl _) (fun ⟨i, hi, e⟩ => e ▸ (hB.one i hi).2.1)) hk.size)
theorem Bd.notMB {w0 wr : World} {n : Nat} {J PB : Nat → Nat} {DB : Nat → Nat → Nat} {F : Ct} (h : Bd w0 wr n n J PB DB F) : ¬ MB n w0.heap.size PB (w0.heap.size + 1) := by
  rintro (e | ⟨i, hi, e⟩)
  · omega
  · obtain ⟨c1, p1, _⟩ := h.reprs
    obtain ⟨_, _, _, ⟨c2, p2, _⟩, _⟩ := h.one i hi
    rw [e] at p2
    exact p2.apart p1 (by decide) rfl
theorem Bd.reprAt {w0 wr W : World} {n : Nat} {J PB : Nat → Nat} {DB : Nat → Nat → Nat} {F : Ct} (h : Bd w0 wr n n J PB DB F) (k : Kept wr W) : ∀ i, i < n → W.cell? ⟨w0.heap.size + 1, i, none⟩ = some (.pointer (some ⟨J i, 0, none⟩)) := fun i hi => by
  obtain ⟨c1, p1, _, e1⟩ := h.reprs
  rw [(p1.kept k).cell]
  exact e1 i hi
def LawTrue (w : World) (e : Ending) (w' : World) : Prop := e = .returned (.bool true) ∧ Kept w w'
end Go.Proofs.Ytbdchplgefgkjab.tm
