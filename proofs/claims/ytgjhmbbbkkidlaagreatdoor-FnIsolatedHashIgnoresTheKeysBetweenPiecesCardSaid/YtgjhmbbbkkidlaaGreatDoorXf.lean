/-
  The company: the starter's own steps, by kind.
  Conditions: none; no program in sight.
-/
import Derived.Test.YtgjhmbbbkkidlaaGreatDoorJd
import Derived.Conc.Own4
import Derived.Below
namespace Go.Proofs.YtgjhmbbbkkidlaaGreatDoor.sim
open Go
open Go.Conc Go.RowKit
section
variable {P : Program} {J : Nat} {D : Nat → Dsc} {F F' : View} {a a' : Goroutine} {cl0 : Nat → Cls} {Goal : Machine → Trace → Prop}
/-- from whatever company in which the starter stands so, the run comes to the goal -/
def MR (P : Program) (J : Nat) (D : Nat → Dsc) (F : View) (a : Goroutine) (cl0 : Nat → Cls) (Goal : Machine → Trace → Prop) : Prop := ∀ m t, At P J D F a cl0 m t → Reach P m t Goal
theorem mr_read (hb : Base P) (ha : a.status = .running) (h : ∀ w, Sees F w → ∃ es, stepG P true a w = .go a' w es ∧ ∀ e ∈ es, e.sync = false ∧ e.write = false ∧ ∃ x, e.loc = .cell x ∧ (F x.block).isSome = true) (k : MR P J D F a' cl0 Goal) : MR P J D F a cl0 Goal := by
  intro m t hat
  refine (main_own hb (Post := fun a2 F2 => a2 = a' ∧ F2 = F) ha (fun w hw hk => ?_) hat).trans fun m' t' hm' => ?_
  rotate_left
  · obtain ⟨_, _, ⟨rfl, rfl⟩, h2⟩ := hm'
    exact k m' t' h2
  · obtain ⟨es, h1, h2⟩ := h w hw
    refine ⟨a', F, w, es, h1, ⟨Nat.le_refl _, hw, fun _ _ _ => rfl, fun _ _ _ _ _ _ => .inl rfl, fun _ x => .inl x, fun e he => ?_, rfl, rfl⟩, rfl, rfl⟩
    obtain ⟨e1, e2, x, e3, e4⟩ := h2 e he
    refine .inl ⟨e1, x, e3, ?_, .inl e4, fun hwr => by rw [e2] at hwr; cases hwr⟩
    cases hf : F x.block with
    | none => rw [hf] at e4; cases e4
    | some o => exact (Array.getElem?_eq_some_iff.1 (hw _ _ hf)).1
theorem mr_pure (hb : Base P) (ha : a.status = .running) (h : ∀ w, stepG P true a w = .go a' w #[]) (k : MR P J D F a' cl0 Goal) : MR P J D F a cl0 Goal :=
  mr_read hb ha (fun w _ => ⟨#[], h w, fun e he => by simp at he⟩) k
/-- the starter makes a block -/
theorem mr_new (hb : Base P) (ha : a.status = .running) {o : Obj} {a2 : Nat → Goroutine} (h : ∀ w, Sees F w → stepG P true a w = .go (a2 w.heap.size) (w.alloc o) #[])
    (k : ∀ n, F n = none → (∀ b, (F b).isSome = true → b < n) → (∀ k, 1 ≤ k → k ≤ J → (D k).B ≤ n ∧ (∀ b, (D k).RB b → b < n) ∧ (D k).c < n) → MR P J D (ext F n o) (a2 n) cl0 Goal) : MR P J D F a cl0 Goal := by
  intro m t hat
  refine (main_own hb (Post := fun x F2 => ∃ n, x = a2 n ∧ F2 = ext F n o ∧ F n = none ∧ (∀ b, (F b).isSome = true → b < n) ∧ ∀ k, 1 ≤ k → k ≤ J → (D k).B ≤ n ∧ (∀ b, (D k).RB b → b < n) ∧ (D k).c < n) ha (fun w hw hk => ?_) hat).trans fun m' t' hm' => ?_
  rotate_left
  · obtain ⟨_, _, ⟨n, rfl, rfl, h1, h1', h2⟩, h3⟩ := hm'
    exact k n h1 h1' h2 m' t' h3
  · have lt : ∀ b, (F b).isSome = true → b < w.heap.size := fun b hb => by
      cases hf : F b with
      | none => rw [hf] at hb; cases hb
      | some o => exact (Array.getElem?_eq_some_iff.1 (hw _ _ hf)).1
    have hn : F w.heap.size = none := by
      cases hf : F w.heap.size with
      | none => rfl
      | some o => have := lt w.heap.size (by rw [hf]; rfl); omega
    refine ⟨_, ext F w.heap.size o, _, #[], h w hw, ⟨?_, fun b o' hb' => ?_, fun b l _ => ?_, fun k k1 kJ b rb l => .inl ?_, fun b hb' => ?_, fun e he => by simp at he, rfl, rfl⟩, w.heap.size, rfl, rfl, hn, lt, fun k k1 kJ => ⟨hk.bn k k1 kJ, fun b rb => ?_, hk.cl k k1 kJ⟩⟩
    · rw [World.size_alloc]; omega
    · by_cases e : b = w.heap.size
      · subst e; rw [ext_eq] at hb'; cases hb'; exact heap_alloc_new w o
      · rw [ext_ne _ _ _ e] at hb'
        exact (Below.heap_alloc w o b (lt b (by rw [hb']; rfl))).trans (hw b o' hb')
    · exact Below.heap_alloc w o b l
    · have := hk.bn k k1 kJ
      exact Below.heap_alloc w o b (by omega)
    · by_cases e : b = w.heap.size
      · exact .inr (Nat.le_of_eq e.symm)
      · rw [ext_ne _ _ _ e] at hb'; exact .inl hb'
    · have := hk.rl k k1 kJ b rb
      have := hk.bn k k1 kJ
      omega
/-- the starter stores into a cell of its view -/
theorem mr_store (hb : Base P) (ha : a.status = .running) {b o : Nat} {c : Array Value} {e : TypeId} {v : Value} (hF : F b = some (.cells c e (0, 0))) (ho : o < c.size) (hro : ∀ k, 1 ≤ k → k ≤ J → ¬ ((D k).RO ⟨b, o, none⟩ ∧ (D k).RB b))
    (h : ∀ w, Sees F w → ∃ es, stepG P true a w = .go a' (w.setCell ⟨b, o, none⟩ v) es ∧ ∀ x ∈ es, x.sync = false ∧ x.loc = .cell ⟨b, o, none⟩) (k : MR P J D (ext F b (.cells (c.setIfInBounds o v) e (0, 0))) a' cl0 Goal) : MR P J D F a cl0 Goal := by
  intro m t hat
  refine (main_own hb (Post := fun a2 F2 => a2 = a' ∧ F2 = ext F b (.cells (c.setIfInBounds o v) e (0, 0))) ha (fun w hw hk => ?_) hat).trans fun m' t' hm' => ?_
  rotate_left
  · obtain ⟨_, _, ⟨rfl, rfl⟩, h2⟩ := hm'
    exact k m' t' h2
  · obtain ⟨es, h1, h2⟩ := h w hw
    have hbw := hw b _ hF
    have hlt : b < w.heap.size := (Array.getElem?_eq_some_iff.1 hbw).1
    have hset : (w.setCell ⟨b, o, none⟩ v).heap[b]? = some (.cells (c.setIfInBounds o v) e (0, 0)) := by
      show (w.heap.modify b _)[b]? = _
      rw [Array.getElem?_modify, if_pos rfl, hbw]
      rfl
    have hne : ∀ b', b' ≠ b → (w.setCell ⟨b, o, none⟩ v).heap[b']? = w.heap[b']? := fun b' hb' => Below.heap_setCell w ⟨b, o, none⟩ v b' hb'
    refine ⟨_, _, _, es, h1, ⟨?_, fun b' o' hb' => ?_, fun b' _ hf => ?_, fun j k1 kJ b' rb l => ?_, fun b' hb' => ?_, fun x hx => ?_, rfl, rfl⟩, rfl, rfl⟩
    · simp [World.setCell]
    · by_cases e' : b' = b
      · subst e'; rw [ext_eq] at hb'; cases hb'; exact hset
      · rw [ext_ne _ _ _ e'] at hb'; exact (hne b' e').trans (hw b' o' hb')
    · refine hne b' ?_
      rintro rfl
      rw [hF] at hf
      cases hf
    · by_cases e' : b' = b
      · subst e'
        refine .inr ⟨c, e, (0, 0), _, hbw, hset, by simp, fun o' hr => ?_⟩
        have : o' ≠ o := by
          rintro rfl
          exact hro j k1 kJ ⟨hr, rb⟩
        rw [Array.getElem?_setIfInBounds_ne (Ne.symm this)]
      · exact .inl (hne b' e')
    · by_cases e' : b' = b
      · subst e'; exact .inl (by rw [hF]; rfl)
      · rw [ext_ne _ _ _ e'] at hb'; exact .inl hb'
    · obtain ⟨e1, e2⟩ := h2 x hx
      refine .inl ⟨e1, _, e2, ?_, .inl (by rw [hF]; rfl), fun _ k k1 kJ hr => hro k k1 kJ hr⟩
      show b < (w.setCell ⟨b, o, none⟩ v).heap.size
      simp [World.setCell, hlt]
end
end Go.Proofs.YtgjhmbbbkkidlaaGreatDoor.sim
