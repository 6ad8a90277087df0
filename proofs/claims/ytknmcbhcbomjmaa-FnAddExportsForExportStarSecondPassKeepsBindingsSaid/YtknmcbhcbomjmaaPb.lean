/-
  The table of resolved exports and the bindings in plain terms: what a step, a round, a call leaves.
  Conditions: none; no program in sight.
-/
import Derived.Test.YtknmcbhcbomjmaaPa
namespace Go.Proofs.Ytknmcbhcbomjmaa.xs
open Classical

/-- an entry: its file, its export's place there, and the ambiguous others -/
structure Ent where
  src : Nat
  j : Nat
  amb : List (Nat × Nat)
section
variable {α : Type}
noncomputable def upd {β : Type} (f : α → β) (a : α) (v : β) : α → β := fun x => if x = a then v else f x
theorem upd_same {β : Type} (f : α → β) (a : α) (v : β) : upd f a v a = v := if_pos rfl
theorem upd_ne {β : Type} (f : α → β) {a x : α} (v : β) (h : x ≠ a) : upd f a v x = f x := if_neg h

/-- from ρ to ρ2: the entries stay where they were, each list grows by at most B; just the aliases of S may be new, and all of S are there -/
structure Stp (S : α → Prop) (B : Nat) (ρ ρ2 : α → Option Ent) : Prop where
  keep : ∀ a e, ρ a = some e → ∃ e2, ρ2 a = some e2 ∧ e2.src = e.src ∧ e2.j = e.j ∧ e2.amb.length ≤ e.amb.length + B
  new : ∀ a e2, ρ2 a = some e2 → ρ a = none → S a ∧ e2.amb.length ≤ B
  all : ∀ a, S a → (ρ2 a).isSome = true
theorem Stp.refl (ρ : α → Option Ent) : Stp (fun _ => False) 0 ρ ρ :=
  ⟨fun a e h => ⟨e, h, rfl, rfl, Nat.le_refl _⟩, fun a e h g => (by rw [h] at g; cases g), fun a h => h.elim⟩
theorem Stp.trans {S1 S2 : α → Prop} {B1 B2 : Nat} {ρ ρ1 ρ2 : α → Option Ent} (h : Stp S1 B1 ρ ρ1) (g : Stp S2 B2 ρ1 ρ2) : Stp (fun a => S1 a ∨ S2 a) (B1 + B2) ρ ρ2 := by
  refine ⟨fun a e he => ?_, fun a e2 he hn => ?_, fun a ha => ?_⟩
  · obtain ⟨e1, h1, h2, h3, h4⟩ := h.keep a e he
    obtain ⟨e2, g1, g2, g3, g4⟩ := g.keep a e1 h1
    exact ⟨e2, g1, g2.trans h2, g3.trans h3, by omega⟩
  · rcases h1 : ρ1 a with _ | e1
    · obtain ⟨q1, q2⟩ := g.new a e2 he h1
      exact ⟨.inr q1, by omega⟩
    · obtain ⟨q1, q2⟩ := h.new a e1 h1 hn
      obtain ⟨e3, g1, _, _, g4⟩ := g.keep a e1 h1
      rw [he] at g1
      cases g1
      exact ⟨.inl q1, by omega⟩
  · rcases ha with ha | ha
    · have := h.all a ha
      obtain ⟨e1, h1⟩ := Option.isSome_iff_exists.1 this
      obtain ⟨e2, g1, _⟩ := g.keep a e1 h1
      rw [g1]; rfl
    · exact g.all a ha
theorem Stp.mono {S S2 : α → Prop} {B B2 : Nat} {ρ ρ2 : α → Option Ent} (h : Stp S B ρ ρ2) (hS : ∀ a, S a ↔ S2 a) (hB : B ≤ B2) : Stp S2 B2 ρ ρ2 := by
  refine ⟨fun a e he => ?_, fun a e2 he hn => ?_, fun a ha => h.all a ((hS a).2 ha)⟩
  · obtain ⟨e1, h1, h2, h3, h4⟩ := h.keep a e he
    exact ⟨e1, h1, h2, h3, by omega⟩
  · obtain ⟨q1, q2⟩ := h.new a e2 he hn
    exact ⟨(hS a).1 q1, by omega⟩
/-- the second pass finds all of S there: no alias comes, none goes -/
theorem Stp.same {S : α → Prop} {B : Nat} {ρ ρ2 : α → Option Ent} (h : Stp S B ρ ρ2) (hS : ∀ a, S a → (ρ a).isSome = true) (a : α) : (ρ2 a).isSome = (ρ a).isSome := by
  rcases h1 : ρ a with _ | e
  · rcases h2 : ρ2 a with _ | e2
    · rfl
    · have := hS a (h.new a e2 h2 h1).1
      rw [h1] at this
      cases this
  · obtain ⟨e2, h2, _⟩ := h.keep a e h1
    rw [h2]
    rfl

/-! ### the table and the bindings -/
variable (n s0 : Nat) (InN : Nat → Prop) (NE : Nat → α → Option Nat) (dflt : α)
/-- what holds of the table ρ (of R aliases) and of the bindings β (b i of them in file i) -/
structure Jv (ρ : α → Option Ent) (β : Nat → Nat × Nat → Bool) (R : Nat) (b : Nat → Nat) : Prop where
  ent : ∀ a e, ρ a = some e → InN e.src ∧ NE e.src a = some e.j ∧ a ≠ dflt ∧ NE s0 a = none ∧ ∀ q ∈ e.amb, q.1 ≠ e.src ∧ InN q.1 ∧ NE q.1 a = some q.2
  hold : ∀ a e, ρ a = some e → ∃ i, (i = s0 ∨ InN i) ∧ i < n ∧ β i (e.src, e.j) = true ∧ ∀ i2, β i2 (e.src, e.j) = true → i2 = i
  only : ∀ i q, β i q = true → ∃ a e, ρ a = some e ∧ q = (e.src, e.j)
  sum : ((List.range n).map b).sum = R
variable {n s0 InN NE dflt}
theorem Jv.start : Jv n s0 InN NE dflt (fun _ => none) (fun _ _ => false) 0 (fun _ => 0) := by
  refine ⟨fun a e h => (by cases h), fun a e h => (by cases h), fun i q h => (by cases h), ?_⟩
  have : ∀ l : List Nat, (l.map fun _ => 0).sum = 0 := by
    intro l
    induction l with
    | nil => rfl
    | cons x l ih => simp [ih]
  exact this _
theorem sum_upd (b : Nat → Nat) {n i : Nat} (hi : i < n) : ((List.range n).map (upd b i (b i + 1))).sum = ((List.range n).map b).sum + 1 := by
  have gen : ∀ l : List Nat, l.Nodup → (i ∈ l → (l.map (upd b i (b i + 1))).sum = (l.map b).sum + 1) ∧ (i ∉ l → (l.map (upd b i (b i + 1))).sum = (l.map b).sum) := by
    intro l
    induction l with
    | nil => intro _; exact ⟨fun h => (by cases h), fun _ => rfl⟩
    | cons x l ih =>
      intro hn
      obtain ⟨hx, hn2⟩ := List.nodup_cons.1 hn
      obtain ⟨i1, i2⟩ := ih hn2
      by_cases e : x = i
      · subst e
        refine ⟨fun _ => ?_, fun h => absurd (by simp) h⟩
        rw [List.map_cons, List.map_cons, List.sum_cons, List.sum_cons, i2 hx, upd_same]
        omega
      · constructor
        · intro h
          have h2 : i ∈ l := by
            rcases List.mem_cons.1 h with h | h
            · exact absurd h.symm e
            · exact h
          rw [List.map_cons, List.map_cons, List.sum_cons, List.sum_cons, i1 h2, upd_ne _ _ e]
          omega
        · intro h
          have h2 : i ∉ l := fun q => h (by simp [q])
          rw [List.map_cons, List.map_cons, List.sum_cons, List.sum_cons, i2 h2, upd_ne _ _ e]
  exact (gen _ List.nodup_range).1 (List.mem_range.2 hi)
section
variable {ρ : α → Option Ent} {β : Nat → Nat × Nat → Bool} {R : Nat} {b : Nat → Nat}
/-- NE names one alias a place -/
def Inj (NE : Nat → α → Option Nat) : Prop := ∀ v a a2 j, NE v a = some j → NE v a2 = some j → a = a2
theorem Jv.fresh (h : Jv n s0 InN NE dflt ρ β R b) (hI : Inj NE) {a : α} {t j : Nat} (ha : ρ a = none) (hj : NE t a = some j) (i : Nat) : β i (t, j) = false := by
  rcases hb : β i (t, j) with _ | _
  · rfl
  · obtain ⟨a2, e2, h2, h3⟩ := h.only i _ hb
    simp only [Prod.mk.injEq] at h3
    obtain ⟨h4, h5⟩ := h3
    have h6 := (h.ent a2 e2 h2).2.1
    rw [← h4, ← h5] at h6
    rw [hI t a a2 j hj h6, h2] at ha
    cases ha
/-- a new alias, bound in file s -/
theorem Jv.insert (h : Jv n s0 InN NE dflt ρ β R b) (hI : Inj NE) {a : α} {s t j : Nat} (ha : ρ a = none) (hj : NE t a = some j) (ht : InN t) (hs : s = s0 ∨ InN s) (hn : s < n) (hd : a ≠ dflt) (h0 : NE s0 a = none) :
    Jv n s0 InN NE dflt (upd ρ a (some ⟨t, j, []⟩)) (upd β s (upd (β s) (t, j) true)) (R + 1) (upd b s (b s + 1)) := by
  have hfr := h.fresh hI ha hj
  refine ⟨fun x e hx => ?_, fun x e hx => ?_, fun i q hq => ?_, by rw [sum_upd b hn, h.sum]⟩
  · by_cases e1 : x = a
    · subst e1
      rw [upd_same] at hx
      cases hx
      exact ⟨ht, hj, hd, h0, fun q hq => (by cases hq)⟩
    · rw [upd_ne _ _ e1] at hx
      exact h.ent x e hx
  · by_cases e1 : x = a
    · subst e1
      rw [upd_same] at hx
      cases hx
      refine ⟨s, hs, hn, by rw [upd_same, upd_same], fun i2 h2 => Classical.byContradiction fun e2 => ?_⟩
      rw [upd_ne _ _ e2, hfr i2] at h2
      cases h2
    · rw [upd_ne _ _ e1] at hx
      obtain ⟨i, i1, i2, i3, i4⟩ := h.hold x e hx
      have hne : (e.src, e.j) ≠ (t, j) := fun c => by
        simp only [Prod.mk.injEq] at c
        have := (h.ent x e hx).2.1
        rw [c.1, c.2] at this
        exact e1 (hI t x a j this hj)
      refine ⟨i, i1, i2, ?_, fun k hk => ?_⟩
      · by_cases e2 : i = s
        · subst e2; rw [upd_same, upd_ne _ _ hne]; exact i3
        · rw [upd_ne _ _ e2]; exact i3
      · by_cases e2 : k = s
        · subst e2; rw [upd_same, upd_ne _ _ hne] at hk; exact i4 _ hk
        · rw [upd_ne _ _ e2] at hk; exact i4 _ hk
  · have old : ∀ i q, β i q = true → ∃ x e, upd ρ a (some ⟨t, j, []⟩) x = some e ∧ q = (e.src, e.j) := fun i q hq => by
      obtain ⟨x, e, h1, h2⟩ := h.only i q hq
      have e1 : x ≠ a := fun c => by subst c; rw [ha] at h1; cases h1
      exact ⟨x, e, by rw [upd_ne _ _ e1]; exact h1, h2⟩
    by_cases e2 : i = s
    · subst e2
      rw [upd_same] at hq
      by_cases e3 : q = (t, j)
      · exact ⟨a, _, upd_same _ _ _, e3⟩
      · rw [upd_ne _ _ e3] at hq
        exact old _ _ hq
    · rw [upd_ne _ _ e2] at hq
      exact old _ _ hq
/-- an ambiguous other -/
theorem Jv.push (h : Jv n s0 InN NE dflt ρ β R b) {a : α} {e : Ent} {t j : Nat} (ha : ρ a = some e) (hj : NE t a = some j) (ht : InN t) (hne : e.src ≠ t) :
    Jv n s0 InN NE dflt (upd ρ a (some ⟨e.src, e.j, e.amb ++ [(t, j)]⟩)) β R b := by
  refine ⟨fun x e2 hx => ?_, fun x e2 hx => ?_, fun i q hq => ?_, h.sum⟩
  · by_cases e1 : x = a
    · subst e1
      rw [upd_same] at hx
      cases hx
      obtain ⟨h1, h2, h3, h4, h5⟩ := h.ent x e ha
      refine ⟨h1, h2, h3, h4, fun q hq => ?_⟩
      rcases List.mem_append.1 hq with hq | hq
      · exact h5 q hq
      · rw [List.mem_singleton.1 hq]
        exact ⟨fun c => hne c.symm, ht, hj⟩
    · rw [upd_ne _ _ e1] at hx
      exact h.ent x e2 hx
  · by_cases e1 : x = a
    · subst e1
      rw [upd_same] at hx
      cases hx
      exact h.hold x e ha
    · rw [upd_ne _ _ e1] at hx
      exact h.hold x e2 hx
  · obtain ⟨x, e2, h1, h2⟩ := h.only i q hq
    by_cases e1 : x = a
    · subst e1
      rw [ha] at h1
      cases h1
      exact ⟨x, _, upd_same _ _ _, h2⟩
    · exact ⟨x, e2, by rw [upd_ne _ _ e1]; exact h1, h2⟩
theorem Stp.insert {a : α} {t j : Nat} (ha : ρ a = none) : Stp (fun x => x = a) 1 ρ (upd ρ a (some ⟨t, j, []⟩)) := by
  refine ⟨fun x e he => ?_, fun x e2 he hn => ?_, fun x hx => by rw [hx, upd_same]; rfl⟩
  · have e1 : x ≠ a := fun c => by subst c; rw [ha] at he; cases he
    exact ⟨e, by rw [upd_ne _ _ e1]; exact he, rfl, rfl, by omega⟩
  · by_cases e1 : x = a
    · subst e1
      rw [upd_same] at he
      cases he
      exact ⟨rfl, by simp⟩
    · rw [upd_ne _ _ e1, hn] at he
      cases he
theorem Stp.push {a : α} {e : Ent} {t j : Nat} (ha : ρ a = some e) : Stp (fun x => x = a) 1 ρ (upd ρ a (some ⟨e.src, e.j, e.amb ++ [(t, j)]⟩)) := by
  refine ⟨fun x e1 he => ?_, fun x e2 he hn => ?_, fun x hx => by rw [hx, upd_same]; rfl⟩
  · by_cases c : x = a
    · subst c
      rw [ha] at he
      cases he
      exact ⟨_, upd_same _ _ _, rfl, rfl, by simp⟩
    · exact ⟨e1, by rw [upd_ne _ _ c]; exact he, rfl, rfl, by omega⟩
  · by_cases c : x = a
    · subst c
      rw [ha] at hn
      cases hn
    · rw [upd_ne _ _ c, hn] at he
      cases he
theorem Stp.stay {a : α} {e : Ent} (ha : ρ a = some e) : Stp (fun x => x = a) 1 ρ ρ :=
  ⟨fun x e1 he => ⟨e1, he, rfl, rfl, by omega⟩, fun x e2 he hn => (by rw [hn] at he; cases he), fun x hx => by rw [hx, ha]; rfl⟩
end
end
end Go.Proofs.Ytknmcbhcbomjmaa.xs
