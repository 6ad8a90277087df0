/-
  A depth-first walk with an output in postorder, told by what it does, and the stack machine that does the same.
  Conditions: none.
-/
import Derived.Test.YtkogmgonceneeaaDfs
namespace Go.Proofs.Ytkogmgonceneeaa.css
open kit dfs

/-- what has been visited, what has been put out -/
structure St where
  d : Nat → Bool
  o : List Nat
section
variable (T C : Nat → List Nat)
def St.mark (s : St) (v : Nat) : St := ⟨upd s.d v true, s.o⟩
def St.emit (C : Nat → List Nat) (s : St) (v : Nat) : St := ⟨s.d, s.o ++ C v⟩
/-- visit the nodes of a list in order; a node not yet visited is marked, its targets are visited, its output is put out -/
inductive Run : List Nat → St → St → Prop
  | nil {s : St} : Run [] s s
  | skip {v : Nat} {ts : List Nat} {s s2 : St} : s.d v = true → Run ts s s2 → Run (v :: ts) s s2
  | go {v : Nat} {ts : List Nat} {s s1 s2 : St} : s.d v = false → Run (T v) (s.mark v) s1 → Run ts (s1.emit C v) s2 → Run (v :: ts) s s2
variable {T C}
theorem Run.det {l : List Nat} {s a b : St} (h : Run T C l s a) (g : Run T C l s b) : a = b := by
  induction h generalizing b with
  | nil => cases g; rfl
  | skip e _ ih =>
    cases g with
    | skip _ g => exact ih g
    | go e2 _ _ => rw [e] at e2; cases e2
  | go e _ _ ih1 ih2 =>
    cases g with
    | skip e2 _ => rw [e] at e2; cases e2
    | go _ g1 g2 =>
      have := ih1 g1
      subst this
      exact ih2 g2
theorem Run.append {l m : List Nat} {s a b : St} (h : Run T C l s a) (g : Run T C m a b) : Run T C (l ++ m) s b := by
  induction h with
  | nil => exact g
  | skip e _ ih => exact .skip e (ih g)
  | go e h1 _ _ ih2 => exact .go e h1 (ih2 g)
theorem Run.mono {l : List Nat} {s a : St} (h : Run T C l s a) : ∀ x, s.d x = true → a.d x = true := by
  induction h with
  | nil => exact fun _ h => h
  | skip _ _ ih => exact ih
  | go _ _ _ ih1 ih2 => exact fun x hx => ih2 x (ih1 x (upd_up hx))
theorem Run.hit {v : Nat} {s a : St} (h : Run T C [v] s a) : a.d v = true := by
  cases h with
  | skip e h => cases h; exact e
  | go e h1 h2 => cases h2; exact h1.mono v (upd_same _ _ _)

/-- what a stack of begun nodes, the top one first, leads to: of each the targets not yet looked at are visited, then its output is put out -/
inductive Stk (T C : Nat → List Nat) : List (Nat × List Nat) → St → St → Prop
  | nil {s : St} : Stk T C [] s s
  | cons {v : Nat} {r : List Nat} {st : List (Nat × List Nat)} {s s1 s2 : St} : Run T C r s s1 → Stk T C st (s1.emit C v) s2 → Stk T C ((v, r) :: st) s s2
/-- the machine's state leads to the answer -/
def Leads (T C : Nat → List Nat) (e : Nat) (s0 : St) (st : List (Nat × List Nat)) (s : St) : Prop := ∀ s2, Stk T C st s s2 → Run T C [e] s0 s2
theorem Leads.start {e : Nat} {s0 : St} (h : s0.d e = false) : Leads T C e s0 [(e, T e)] (s0.mark e) := fun s2 g => by
  cases g with
  | cons g1 g2 => cases g2; exact .go h g1 .nil
theorem Leads.pop {e v : Nat} {s0 s : St} {st : List (Nat × List Nat)} (h : Leads T C e s0 ((v, []) :: st) s) : Leads T C e s0 st (s.emit C v) := fun s2 g => h s2 (.cons .nil g)
theorem Leads.skip {e v t : Nat} {r : List Nat} {s0 s : St} {st : List (Nat × List Nat)} (h : Leads T C e s0 ((v, t :: r) :: st) s) (ht : s.d t = true) : Leads T C e s0 ((v, r) :: st) s := fun s2 g => by
  cases g with
  | cons g1 g2 => exact h s2 (.cons (.skip ht g1) g2)
theorem Leads.push {e v t : Nat} {r : List Nat} {s0 s : St} {st : List (Nat × List Nat)} (h : Leads T C e s0 ((v, t :: r) :: st) s) (ht : s.d t = false) : Leads T C e s0 ((t, T t) :: (v, r) :: st) (s.mark t) := fun s2 g => by
  cases g with
  | cons g1 g2 =>
    cases g2 with
    | cons g3 g4 => exact h s2 (.cons (.go ht g1 g3) g4)
theorem Leads.fin {e : Nat} {s0 s : St} (h : Leads T C e s0 [] s) : Run T C [e] s0 s := h s .nil
end
end Go.Proofs.Ytkogmgonceneeaa.css
