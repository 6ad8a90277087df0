/-
  The walk of lkB1ModelLive over this seat's program: its rounds end with everything that is reached marked.
  Conditions: the files are readable, fit and are well formed.
-/
import Derived.Test.YtgnccfofhcbjjaaLs
import Derived.Test.YtgnccfofhcbjjaaGd
namespace Go.Proofs.Ytgnccfofhcbjjaa.lk
open Go.ChangeShapes Go.WideShapes Go.ChangeAt Go.RowKit
open kit dfs dst

/-- the model's state at a stage of a round -/
structure Ms (w W : World) (q1 q2 : Nat) (G : Nat → Nat) (F : Ct) (g : Bool) (s : Nd) (R0 : Nd → Bool) (c : Bool) (D : Nd → Nd → Prop) (R : Nd → Bool) : Prop where
  st : St F g s R0 R c D
  mks : Marks W q1 q2 G F R
  kept : Kept w W
section
variable {w W W2 : World} {q1 q2 : Nat} {G : Nat → Nat} {F : Ct} {g : Bool} {s : Nd} {R0 R : Nd → Bool} {c : Bool} {D D2 : Nd → Nd → Prop}
theorem Ms.kept2 (h : Ms w W q1 q2 G F g s R0 c D R) (k : Kept W W2) : Ms w W2 q1 q2 G F g s R0 c D R := ⟨h.st, h.mks.kept k, h.kept.trans k⟩
theorem Ms.weak (h : Ms w W q1 q2 G F g s R0 c D R) (hD : ∀ x t, D2 x t → D x t ∨ R x = false ∨ R t = true) : Ms w W q1 q2 G F g s R0 c D2 R := ⟨h.st.weak hD, h.mks, h.kept⟩
theorem Ms.markF (h : Ms w W q1 q2 G F g s R0 c D R) (hf : Fits F) (hs : In F s) (hlo : w.heap.size ≤ q1) {x : Nd} {f : Nat} (hx : R x = true) (ht : (.inl f : Nd) ∈ succ F g x) (hR : R (.inl f) = false) (hl : f < F.length) (D2 : Nd → Nd → Prop) :
    Ms w (W.setCell ⟨q1, f, none⟩ (.bool true)) q1 q2 G F g s R0 true D2 (upd R (.inl f) true) := ⟨h.st.mark hf hs hx ht hR D2, h.mks.setF hl, h.kept.setCell hlo _⟩
theorem Ms.markP (h : Ms w W q1 q2 G F g s R0 c D R) (hf : Fits F) (hs : In F s) {x : Nd} {f p : Nat} (hlo : w.heap.size ≤ G f) (hx : R x = true) (ht : (.inr (f, p) : Nd) ∈ succ F g x) (hR : R (.inr (f, p)) = false) (hl : f < F.length) (hp : p < np F f) (D2 : Nd → Nd → Prop) :
    Ms w (W.setCell ⟨G f, p, none⟩ (.bool true)) q1 q2 G F g s R0 true D2 (upd R (.inr (f, p)) true) := ⟨h.st.mark hf hs hx ht hR D2, h.mks.setP hl hp, h.kept.setCell hlo _⟩
end
def GE (w : World) (F : Ct) (t11 : Value) (W : World) : Prop := ∃ (k : Nat) (G : Nat → Nat), k ≤ F.length ∧ t11 = .int .i64 (k : Int) ∧ Ek w W F k G
section
variable (w : World) (q1 q2 : Nat) (G : Nat → Nat) (F : Ct) (g : Bool) (s : Nd) (R0 : Nd → Bool)
def A1 (t12 : Value) (W : World) : Prop := ∃ R c, t12 = .bool c ∧ (∀ x, R x = true → Rch (succ F g) s x) ∧ R s = true ∧ Marks W q1 q2 G F R ∧ Kept w W ∧ (c = false → ∀ x, R x = true ↔ Rch (succ F g) s x)
def B1 (t13 t12 : Value) (W : World) : Prop := ∃ i R c, i ≤ F.length ∧ t13 = .int .i64 (i : Int) ∧ t12 = .bool c ∧ Ms w W q1 q2 G F g s R0 c (DI F g i) R
def CX (i bf : Nat) (BX : List Value) (D : Nd → Nd → Prop) (t12 : Value) (W : World) : Prop := ∃ R c, t12 = .bool c ∧ Ms w W q1 q2 G F g s R0 c D R ∧ R (.inl i) = true ∧ Blk W bf 66 BX
def C1 (i bf : Nat) (BX : List Value) (t15 t12 : Value) (W : World) : Prop := ∃ j, j ≤ np F i ∧ t15 = .int .i64 (j : Int) ∧ CX w q1 q2 G F g s R0 i bf BX (DJ F g i j 0) t12 W
def E1 (i j bf bp : Nat) (BX BP : List Value) (t18 t17 t12 : Value) (W : World) : Prop := ∃ k, k ≤ (pp F i j).recs.length ∧ t18 = .int .i64 (k : Int) ∧ t17 = .bool (!(pp F i j).rem || keepQ F g i j k) ∧ CX w q1 q2 G F g s R0 i bf BX (DJ F g i j k) t12 W ∧ Blk W bp 135 BP
def PX (bf : Nat) (BX : List Value) (D : Nd → Nd → Prop) (t12 : Value) (W : World) : Prop := ∃ R c, t12 = .bool c ∧ Ms w W q1 q2 G F g s R0 c D R ∧ Blk W bf 66 BX
def P1 (i bf : Nat) (BX : List Value) (t20 t12 : Value) (W : World) : Prop := ∃ j, j ≤ np F i ∧ t20 = .int .i64 (j : Int) ∧ PX w q1 q2 G F g s R0 bf BX (DP F g i j) t12 W
def QX (i j bf : Nat) (BX : List Value) (D : Nd → Nd → Prop) (t12 : Value) (W : World) : Prop := ∃ R c, t12 = .bool c ∧ Ms w W q1 q2 G F g s R0 c D R ∧ R (.inr (i, j)) = true ∧ Blk W bf 66 BX
def Q1 (i j bf : Nat) (BX : List Value) (t22 t12 : Value) (W : World) : Prop := ∃ k, k ≤ (pp F i j).deps.length ∧ t22 = .int .i64 (k : Int) ∧ QX w q1 q2 G F g s R0 i j bf BX (DQ F g i j k) t12 W
end
def chN : Value → Nat
  | .bool true => 1
  | _ => 0
def ModelP (w : World) (F : Ct) (g : Bool) (s : Nat) (e : Ending) (w' : World) : Prop :=
  e = .returned (.tuple #[.slice (some ⟨w.heap.size, 0, none⟩) F.length F.length, .slice (some ⟨w.heap.size + 1, 0, none⟩) F.length F.length]) ∧ ∃ G R, Marks w' w.heap.size (w.heap.size + 1) G F R ∧ (∀ x, R x = true ↔ Rch (succ F g) (.inl s) x) ∧ Kept w w'

/-- the block of that number in a code -/
def blkAt (n : Nat) : Code → Option Code
  | .block k c => if k = n then some (.block k c) else blkAt n c
  | .loop c => blkAt n c
  | .seq a b => match blkAt n a with
    | some c => some c
    | none => blkAt n b
  | .scope c => blkAt n c
  | .cond _ a b => match blkAt n a with
    | some c => some c
    | none => blkAt n b
  | _ => none
noncomputable def pieceE : Code := (Try.f15.body.bind (blkAt 8)).getD .skip
noncomputable def pieceQ : Code := (Try.f15.body.bind (blkAt 12)).getD .skip
noncomputable def pieceC : Code := (Try.f15.body.bind (blkAt 6)).getD .skip
noncomputable def pieceP : Code := (Try.f15.body.bind (blkAt 10)).getD .skip
theorem kd1 {n : Nat} (h : n = 1) : ((n : Int) != 1) = false := by subst h; rfl
theorem kd0 {n : Nat} (h : ¬ n = 1) : ((n : Int) != 1) = true := by simp; omega
def EEnd (w : World) (q1 q2 : Nat) (G : Nat → Nat) (F : Ct) (g : Bool) (s : Nd) (R0 : Nd → Bool) (i j bf : Nat) (BX : List Value) (t17 t12 : Value) (W : World) : Prop := t17 = .bool (keepP F g i j) ∧ CX w q1 q2 G F g s R0 i bf BX (DJ F g i j (pp F i j).recs.length) t12 W
end Go.Proofs.Ytgnccfofhcbjjaa.lk
