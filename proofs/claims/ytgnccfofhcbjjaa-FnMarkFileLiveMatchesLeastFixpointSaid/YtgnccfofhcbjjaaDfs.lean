/-
  Marking nodes of a graph depth first: what is marked behind it is what was marked before and what is reached.
  Conditions: none.
-/
import Derived.Test.YtgnccfofhcbjjaaKit
namespace Go.Proofs.Ytgnccfofhcbjjaa.dfs

def upd {α β : Type} [DecidableEq α] (f : α → β) (v : α) (a : β) : α → β := fun x => if x = v then a else f x
section
variable {α β : Type} [DecidableEq α]
theorem upd_same (f : α → β) (v : α) (a : β) : upd f v a v = a := if_pos rfl
theorem upd_ne (f : α → β) {v x : α} (a : β) (h : x ≠ v) : upd f v a x = f x := if_neg h
theorem upd_up {d : α → Bool} {v x : α} (h : d x = true) : upd d v true x = true := by
  by_cases e : x = v
  · rw [e]; exact upd_same _ _ _
  · rw [upd_ne _ _ e]; exact h
theorem upd_only {d : α → Bool} {v x : α} (h : d x = false) (h2 : upd d v true x = true) : x = v := by
  apply Classical.byContradiction
  intro hn
  rw [upd_ne _ _ hn, h] at h2
  cases h2
end

inductive Rch {α : Type} (succ : α → List α) (s : α) : α → Prop
  | start : Rch succ s s
  | step {u t : α} : Rch succ s u → t ∈ succ u → Rch succ s t
theorem Rch.go {α : Type} {succ : α → List α} {s t x : α} (h : Rch succ s t) (g : Rch succ t x) : Rch succ s x := by
  induction g with
  | start => exact h
  | step _ h3 ih => exact .step ih h3

structure Dfs {α : Type} (succ : α → List α) (v : α) (d d2 : α → Bool) : Prop where
  mono : ∀ x, d x = true → d2 x = true
  hit : d2 v = true
  closed : ∀ x, d x = false → d2 x = true → ∀ t ∈ succ x, d2 t = true
  reach : ∀ x, d x = false → d2 x = true → Rch succ v x
/-- v is marked, the nodes ts are visited -/
structure Lp {α : Type} (succ : α → List α) (v : α) (ts : List α) (d d2 : α → Bool) : Prop where
  mono : ∀ x, d x = true → d2 x = true
  hit : d2 v = true
  seen : ∀ t ∈ ts, d2 t = true
  closed : ∀ x, x ≠ v → d x = false → d2 x = true → ∀ t ∈ succ x, d2 t = true
  reach : ∀ x, d x = false → d2 x = true → Rch succ v x
section
variable {α : Type} {succ : α → List α} {v t : α} {d d2 d3 : α → Bool} {ts : List α}
theorem Dfs.done (h : d v = true) : Dfs succ v d d :=
  ⟨fun _ hx => hx, h, fun x h1 h2 => absurd (h1.symm.trans h2) (by decide), fun x h1 h2 => absurd (h1.symm.trans h2) (by decide)⟩
theorem Lp.start [DecidableEq α] : Lp succ v [] d (upd d v true) :=
  ⟨fun _ hx => upd_up hx, upd_same _ _ _, fun t ht => absurd ht (by simp), fun x hn h1 h2 => absurd (upd_only h1 h2) hn, fun x h1 h2 => by rw [upd_only h1 h2]; exact .start⟩
theorem Lp.step (h : Lp succ v ts d d2) (ht : t ∈ succ v) (g : Dfs succ t d2 d3) : Lp succ v (ts ++ [t]) d d3 := by
  refine ⟨fun x hx => g.mono x (h.mono x hx), g.mono _ h.hit, fun u hu => ?_, fun x hn h1 h3 t2 ht2 => ?_, fun x h1 h3 => ?_⟩
  · rcases List.mem_append.1 hu with hu | hu
    · exact g.mono _ (h.seen u hu)
    · rw [List.mem_singleton.1 hu]; exact g.hit
  · cases e : d2 x
    · exact g.closed x e h3 t2 ht2
    · exact g.mono _ (h.closed x hn h1 e t2 ht2)
  · cases e : d2 x
    · exact (Rch.step .start ht).go (g.reach x e h3)
    · exact h.reach x h1 e
theorem Lp.fin (h : Lp succ v ts d d2) (hts : ∀ t ∈ succ v, t ∈ ts) : Dfs succ v d d2 :=
  ⟨h.mono, h.hit, fun x h1 h2 t ht => by
    by_cases e : x = v
    · subst e; exact h.seen t (hts t ht)
    · exact h.closed x e h1 h2 t ht, h.reach⟩
theorem Dfs.iff (h : Dfs succ v d d2) (hc : ∀ x, d x = true → ∀ t ∈ succ x, d t = true) (x : α) : d2 x = true ↔ d x = true ∨ Rch succ v x := by
  constructor
  · intro hx
    cases e : d x
    · exact .inr (h.reach x e hx)
    · exact .inl rfl
  · rintro (hx | hx)
    · exact h.mono x hx
    · induction hx with
      | start => exact h.hit
      | @step u t _ h3 ih =>
        cases e : d u
        · exact h.closed _ e ih _ h3
        · exact h.mono _ (hc _ e _ h3)
theorem Dfs.closedAll (h : Dfs succ v d d2) (hc : ∀ x, d x = true → ∀ t ∈ succ x, d t = true) : ∀ x, d2 x = true → ∀ t ∈ succ x, d2 t = true := fun x hx t ht => by
  cases e : d x
  · exact h.closed x e hx t ht
  · exact h.mono _ (hc x e t ht)
end

/-- how many of the nodes us are not marked -/
def free {α : Type} (us : List α) (d : α → Bool) : Nat := us.countP (fun i => !d i)
section
variable {α : Type} {us : List α} {d d2 : α → Bool}
theorem free_mono (h : ∀ x, d x = true → d2 x = true) : free us d2 ≤ free us d := by
  unfold free
  apply List.countP_mono_left
  intro x _ hx
  cases e : d x
  · rfl
  · rw [h x e] at hx; cases hx
theorem free_lt {v : α} (hm : ∀ x, d x = true → d2 x = true) (hv : v ∈ us) (h : d v = false) (h2 : d2 v = true) : free us d2 < free us d := by
  induction us with
  | nil => cases hv
  | cons a r ih =>
    have hr := free_mono (us := r) hm
    unfold free at *
    rw [List.countP_cons, List.countP_cons]
    rcases List.mem_cons.1 hv with rfl | hv
    · simp only [h, h2]
      simp
      omega
    · have := ih hv
      have h3 : (if (!d2 a) = true then 1 else 0) ≤ (if (!d a) = true then 1 else 0) := by
        cases e : d a
        · simp
          split <;> omega
        · simp [hm a e]
      omega
end
/-- the worklist's state: R is what it has seen, wk what it has still to look at -/
structure Wl {α : Type} (succ : α → List α) (P : α → Prop) (R : α → Bool) (wk : List α) : Prop where
  sound : ∀ x, R x = true → P x
  soundW : ∀ x ∈ wk, P x
  closed : ∀ x, R x = true → ∀ t ∈ succ x, R t = true ∨ t ∈ wk
end Go.Proofs.Ytgnccfofhcbjjaa.dfs
