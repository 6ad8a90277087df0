/-
  Plain law of the wrapping of dependencies: what a depth-first marking leaves is what a worklist reaches.
  Conditions: none.
-/
import Derived.Test.YtbdchplgefgkjaaKit
namespace Go.Proofs.Ytbdchplgefgkjaa.wrp

def upd {α : Type} (f : Nat → α) (v : Nat) (a : α) : Nat → α := fun x => if x = v then a else f x
theorem upd_same {α : Type} (f : Nat → α) (v : Nat) (a : α) : upd f v a v = a := if_pos rfl
theorem upd_ne {α : Type} (f : Nat → α) {v x : Nat} (a : α) (h : x ≠ v) : upd f v a x = f x := if_neg h

/-- what is reached from s, over files that are not done and not the runtime's -/
inductive Rch (d : Nat → Bool) (im : Nat → List Nat) (s : Nat) : Nat → Prop
  | start : Rch d im s s
  | step {u t : Nat} : Rch d im s u → d u = false → u ≠ 0 → t ∈ im u → Rch d im s t
theorem Rch.go {d d1 : Nat → Bool} {im : Nat → List Nat} {s t x : Nat} (hm : ∀ y, d1 y = false → d y = false) (h : Rch d im s t) (g : Rch d1 im t x) : Rch d im s x := by
  induction g with
  | start => exact h
  | step _ h1 h2 h3 ih => exact .step ih (hm _ h1) h2 h3

def wrapK (e z : Int) : Int := if z = 0 then (if e = 1 then 1 else 2) else z

structure Dfs (im : Nat → List Nat) (ek : Nat → Int) (v : Nat) (d d2 : Nat → Bool) (z z2 : Nat → Int) : Prop where
  mono : ∀ x, d x = true → d2 x = true
  hit : d2 v = true
  closed : ∀ x, d x = false → d2 x = true → x ≠ 0 → ∀ t ∈ im x, d2 t = true
  reach : ∀ x, d x = false → d2 x = true → Rch d im v x
  wrap : ∀ x, z2 x = if d x = false ∧ d2 x = true ∧ x ≠ 0 then wrapK (ek x) (z x) else z x
structure Lp (im : Nat → List Nat) (ek : Nat → Int) (v : Nat) (ts : List Nat) (d d2 : Nat → Bool) (z z2 : Nat → Int) : Prop where
  mono : ∀ x, d x = true → d2 x = true
  hit : d2 v = true
  seen : ∀ t ∈ ts, d2 t = true
  closed : ∀ x, x ≠ v → d x = false → d2 x = true → x ≠ 0 → ∀ t ∈ im x, d2 t = true
  reach : ∀ x, d x = false → d2 x = true → Rch d im v x
  wrap : ∀ x, z2 x = if d x = false ∧ d2 x = true ∧ x ≠ 0 then wrapK (ek x) (z x) else z x

section
variable {im : Nat → List Nat} {ek : Nat → Int} {v : Nat} {d d2 d3 : Nat → Bool} {z z2 z3 : Nat → Int}
theorem Dfs.done (h : d v = true) : Dfs im ek v d d z z :=
  ⟨fun _ hx => hx, h, fun x h1 h2 => absurd (h1.symm.trans h2) (by decide), fun x h1 h2 => absurd (h1.symm.trans h2) (by decide), fun x => by
    rw [if_neg]
    rintro ⟨h1, h2, _⟩
    exact absurd (h1.symm.trans h2) (by decide)⟩
theorem Dfs.zero (h : d 0 = false) : Dfs im ek 0 d (upd d 0 true) z z := by
  have only : ∀ x, d x = false → upd d 0 true x = true → x = 0 := fun x h1 h2 => by
    apply Classical.byContradiction
    intro hn
    rw [upd_ne _ _ hn, h1] at h2; cases h2
  refine ⟨fun x hx => ?_, upd_same _ _ _, fun x h1 h2 h3 => absurd (only x h1 h2) h3, fun x h1 h2 => ?_, fun x => ?_⟩
  · by_cases e : x = 0
    · subst e; exact upd_same _ _ _
    · rw [upd_ne _ _ e]; exact hx
  · rw [only x h1 h2]; exact .start
  · rw [if_neg]
    rintro ⟨h1, h2, h3⟩
    exact h3 (only x h1 h2)
theorem Lp.start (h : d v = false) (h0 : v ≠ 0) : Lp im ek v [] d (upd d v true) z (upd z v (wrapK (ek v) (z v))) := by
  have only : ∀ x, d x = false → upd d v true x = true → x = v := fun x h1 h2 => by
    apply Classical.byContradiction
    intro hn
    rw [upd_ne _ _ hn, h1] at h2; cases h2
  refine ⟨fun x hx => ?_, upd_same _ _ _, fun t ht => absurd ht (by simp), fun x hn h1 h2 => absurd (only x h1 h2) hn, fun x h1 h2 => ?_, fun x => ?_⟩
  · by_cases e : x = v
    · rw [e]; exact upd_same _ _ _
    · rw [upd_ne _ _ e]; exact hx
  · rw [only x h1 h2]; exact .start
  · by_cases e : x = v
    · rw [e, upd_same, if_pos ⟨h, upd_same _ _ _, h0⟩]
    · rw [upd_ne _ _ e, if_neg]
      rintro ⟨h1, h2, _⟩
      exact e (only x h1 h2)
theorem Lp.step {ts : List Nat} {t : Nat} (h : Lp im ek v ts d d2 z z2) (hd : d v = false) (h0 : v ≠ 0) (ht : t ∈ im v) (g : Dfs im ek t d2 d3 z2 z3) : Lp im ek v (ts ++ [t]) d d3 z z3 := by
  have back : ∀ y, d2 y = false → d y = false := fun y hy => by
    cases e : d y
    · rfl
    · rw [h.mono y e] at hy; cases hy
  refine ⟨fun x hx => g.mono x (h.mono x hx), g.mono _ h.hit, fun u hu => ?_, fun x hn h1 h3 hx0 t2 ht2 => ?_, fun x h1 h3 => ?_, fun x => ?_⟩
  · rcases List.mem_append.1 hu with hu | hu
    · exact g.mono _ (h.seen u hu)
    · rw [List.mem_singleton.1 hu]; exact g.hit
  · cases e : d2 x
    · exact g.closed x e h3 hx0 t2 ht2
    · exact g.mono _ (h.closed x hn h1 e hx0 t2 ht2)
  · cases e : d2 x
    · exact (Rch.step .start hd h0 ht).go back (g.reach x e h3)
    · exact h.reach x h1 e
  · rw [g.wrap x]
    cases e : d2 x
    · cases e3 : d3 x
      · rw [if_neg (by simp), if_neg (by simp), h.wrap x, if_neg (by simp [e])]
      · by_cases hx0 : x = 0
        · rw [if_neg (fun c => c.2.2 hx0), if_neg (fun c => c.2.2 hx0), h.wrap x, if_neg (by simp [e])]
        · rw [if_pos ⟨rfl, rfl, hx0⟩, if_pos ⟨back x e, rfl, hx0⟩, h.wrap x, if_neg (by simp [e])]
    · rw [if_neg (by simp), h.wrap x, g.mono x e, e]
theorem Lp.done {ts : List Nat} (h : Lp im ek v ts d d2 z z2) (hts : ∀ t ∈ im v, t ∈ ts) : Dfs im ek v d d2 z z2 :=
  ⟨h.mono, h.hit, fun x h1 h2 h3 t ht => by
    by_cases e : x = v
    · subst e; exact h.seen t (hts t ht)
    · exact h.closed x e h1 h2 h3 t ht, h.reach, h.wrap⟩
end

/-- how many files below n are not done -/
def open_ (n : Nat) (d : Nat → Bool) : Nat := (List.range n).countP (fun i => !d i)
theorem open_mono {n : Nat} {d d2 : Nat → Bool} (h : ∀ x, d x = true → d2 x = true) : open_ n d2 ≤ open_ n d := by
  unfold open_
  apply List.countP_mono_left
  intro x _ hx
  cases e : d x
  · rfl
  · rw [h x e] at hx; cases hx
theorem open_lt {n v : Nat} {d d2 : Nat → Bool} (hm : ∀ x, d x = true → d2 x = true) (hv : v < n) (h : d v = false) (h2 : d2 v = true) : open_ n d2 < open_ n d := by
  induction n with
  | zero => omega
  | succ n ih =>
    unfold open_ at *
    rw [List.range_succ, List.countP_append, List.countP_append]
    by_cases e : v = n
    · subst e
      have := open_mono (n := v) hm
      unfold open_ at this
      simp only [List.countP_cons, List.countP_nil, h, h2]
      simp
      omega
    · have := ih (by omega)
      have h3 : (List.countP (fun i => !d2 i) [n]) ≤ List.countP (fun i => !d i) [n] := List.countP_mono_left (fun x _ hx => by
        cases e : d x
        · rfl
        · rw [hm x e] at hx; cases hx)
      omega

/-- the worklist's state: R is what it has seen, wk what it has still to look at, u what it is looking at with the targets ts seen -/
structure Wl (d : Nat → Bool) (im : Nat → List Nat) (s n : Nat) (R : Nat → Bool) (wk : List Nat) : Prop where
  start : R s = true
  sound : ∀ x, R x = true → Rch d im s x
  low : ∀ x ∈ wk, x < n ∧ R x = true
  closed : ∀ x, R x = true → x ∉ wk → d x = false → x ≠ 0 → ∀ t ∈ im x, R t = true
structure Wi (d : Nat → Bool) (im : Nat → List Nat) (s n : Nat) (u : Nat) (ts : List Nat) (R : Nat → Bool) (wk : List Nat) : Prop where
  start : R s = true
  here : R u = true
  sound : ∀ x, R x = true → Rch d im s x
  low : ∀ x ∈ wk, x < n ∧ R x = true
  seen : ∀ t ∈ ts, R t = true
  closed : ∀ x, x ≠ u → R x = true → x ∉ wk → d x = false → x ≠ 0 → ∀ t ∈ im x, R t = true
section
variable {d : Nat → Bool} {im : Nat → List Nat} {s n u t : Nat} {ts wk : List Nat} {R : Nat → Bool}
theorem Wl.init (hs : s < n) : Wl d im s n (upd (fun _ => false) s true) [s] :=
  ⟨upd_same _ _ _, (fun x hx => by
    by_cases e : x = s
    · rw [e]; exact .start
    · rw [upd_ne _ _ e] at hx; cases hx), (fun x hx => by
    obtain rfl := List.mem_singleton.1 hx
    exact ⟨hs, upd_same _ _ _⟩), (fun x hx hn => by
    by_cases e : x = s
    · exact absurd (show x ∈ [s] by rw [e]; simp) hn
    · rw [upd_ne _ _ e] at hx; cases hx)⟩
theorem Wl.pop (h : Wl d im s n R (wk ++ [u])) : Wi d im s n u [] R wk :=
  ⟨h.start, (h.low u (by simp)).2, h.sound, fun x hx => h.low x (by simp [hx]), fun t ht => absurd ht (by simp), fun x hn hx hw => h.closed x hx (by simp [hw, hn])⟩
theorem Wi.skip (h : Wi d im s n u [] R wk) (hu : d u = true ∨ u = 0) : Wl d im s n R wk :=
  ⟨h.start, h.sound, h.low, fun x hx hw hd h0 => by
    by_cases e : x = u
    · subst e
      rcases hu with hu | hu
      · rw [hd] at hu; cases hu
      · exact absurd hu h0
    · exact h.closed x e hx hw hd h0⟩
theorem Wi.old (h : Wi d im s n u ts R wk) (ht : R t = true) : Wi d im s n u (ts ++ [t]) R wk :=
  ⟨h.start, h.here, h.sound, h.low, fun x hx => (List.mem_append.1 hx).elim (h.seen x) (fun e => by rw [List.mem_singleton.1 e]; exact ht), h.closed⟩
theorem Wi.new (h : Wi d im s n u ts R wk) (hd : d u = false) (h0 : u ≠ 0) (ht : t ∈ im u) (htn : t < n) : Wi d im s n u (ts ++ [t]) (upd R t true) (wk ++ [t]) := by
  have up : ∀ x, R x = true → upd R t true x = true := fun x hx => by
    by_cases e : x = t
    · rw [e]; exact upd_same _ _ _
    · rw [upd_ne _ _ e]; exact hx
  refine ⟨up _ h.start, up _ h.here, fun x hx => ?_, fun x hx => ?_, fun x hx => ?_, fun x hn hx hw hdx hx0 t2 ht2 => ?_⟩
  · by_cases e : x = t
    · rw [e]; exact .step (h.sound u h.here) hd h0 ht
    · rw [upd_ne _ _ e] at hx; exact h.sound x hx
  · rcases List.mem_append.1 hx with hx | hx
    · exact ⟨(h.low x hx).1, up _ (h.low x hx).2⟩
    · rw [List.mem_singleton.1 hx]; exact ⟨htn, upd_same _ _ _⟩
  · rcases List.mem_append.1 hx with hx | hx
    · exact up _ (h.seen x hx)
    · rw [List.mem_singleton.1 hx]; exact upd_same _ _ _
  · have hxt : x ≠ t := fun e => hw (by simp [e])
    rw [upd_ne _ _ hxt] at hx
    exact up _ (h.closed x hn hx (fun c => hw (by simp [c])) hdx hx0 t2 ht2)
theorem Wi.fin (h : Wi d im s n u ts R wk) (hts : ∀ t ∈ im u, t ∈ ts) : Wl d im s n R wk :=
  ⟨h.start, h.sound, h.low, fun x hx hw hd h0 t ht => by
    by_cases e : x = u
    · subst e; exact h.seen t (hts t ht)
    · exact h.closed x e hx hw hd h0 t ht⟩
theorem Wl.iff (h : Wl d im s n R []) (x : Nat) : R x = true ↔ Rch d im s x := by
  refine ⟨h.sound x, fun g => ?_⟩
  induction g with
  | start => exact h.start
  | step _ h1 h2 h3 ih => exact h.closed _ ih (by simp) h1 h2 _ h3
theorem Dfs.iff {ek : Nat → Int} {v : Nat} {d2 : Nat → Bool} {z z2 : Nat → Int} (h : Dfs im ek v d d2 z z2) (x : Nat) : d2 x = true ↔ d x = true ∨ Rch d im v x := by
  constructor
  · intro hx
    cases e : d x
    · exact .inr (h.reach x e hx)
    · exact .inl rfl
  · rintro (hx | hx)
    · exact h.mono x hx
    · induction hx with
      | start => exact h.hit
      | step _ h1 h2 h3 ih => exact h.closed _ h1 ih h2 _ h3
/-- what the law compares at file x -/
theorem same {ek : Nat → Int} {d2 : Nat → Bool} {z z2 : Nat → Int} (h : Dfs im ek s d d2 z z2) (g : Wl d im s n R []) (x : Nat) :
    d2 x = (d x || R x) ∧ z2 x = if R x = true ∧ d x = false ∧ x ≠ 0 then wrapK (ek x) (z x) else z x := by
  have h1 := h.iff x
  have h2 := g.iff x
  constructor
  · cases e : d2 x
    · cases e1 : d x
      · cases e2 : R x
        · rfl
        · rw [e] at h1
          exact absurd (h1.2 (.inr (h2.1 e2))) (by simp)
      · rw [h.mono x e1] at e; cases e
    · rcases h1.1 e with c | c
      · rw [c]; rfl
      · rw [h2.2 c, Bool.or_true]
  · rw [h.wrap x]
    by_cases c : d x = false
    · cases e2 : R x
      · rw [if_neg, if_neg (by simp)]
        rintro ⟨_, c2, _⟩
        rcases h1.1 c2 with c3 | c3
        · rw [c] at c3; cases c3
        · rw [h2.2 c3] at e2; cases e2
      · have : d2 x = true := h1.2 (.inr (h2.1 e2))
        simp [c, this]
    · rw [if_neg (fun k => c k.1), if_neg (fun k => c k.2.1)]
end
end Go.Proofs.Ytbdchplgefgkjaa.wrp
