/-
  The export-star graph in plain terms: which aliases a call of addExportsForExportStar comes to, and how often it pushes.
  Conditions: none; no program in sight.
-/
import Derived.Lib.Hide
namespace Go.Proofs.Ytknmcbhcbomjmaa.xs

section
variable {α : Type} (Tg : Nat → List Nat) (cj : Nat → Bool) (Ex : Nat → α → Prop)
/-- one of s's stars leads to t, which is no CommonJS file -/
def Edge (s t : Nat) : Prop := t ∈ Tg s ∧ cj t = false
/-- with the stack P (s its top) the call comes to the alias a -/
inductive Rt : List Nat → Nat → α → Prop
  | here {P : List Nat} {s t : Nat} {a : α} : Edge Tg cj s t → Ex t a → (∀ x ∈ P, ¬ Ex x a) → Rt P s a
  | step {P : List Nat} {s t : Nat} {a : α} : Edge Tg cj s t → t ∉ P → Rt (P ++ [t]) t a → Rt P s a
/-- what the stars lead to from s0, through files that are no CommonJS files -/
inductive In (s0 : Nat) : Nat → Prop
  | one {t : Nat} : Edge Tg cj s0 t → In s0 t
  | more {u t : Nat} : In s0 u → Edge Tg cj u t → In s0 t
/-- a way of stars -/
def Way : Nat → List Nat → Prop
  | _, [] => True
  | s, t :: l => Edge Tg cj s t ∧ Way t l
/-- where a way from s ends -/
def lastD : Nat → List Nat → Nat
  | s, [] => s
  | _, t :: l => lastD t l
theorem lastD_mid : ∀ (l1 : List Nat) (s x : Nat) (l2 : List Nat), lastD s (l1 ++ x :: l2) = lastD x l2 := by
  intro l1
  induction l1 with
  | nil => intro s x l2; rfl
  | cons y l1 ih => intro s x l2; exact ih y x l2
variable {Tg cj Ex}
theorem Way.snoc : ∀ {l : List Nat} {s t : Nat}, Way Tg cj s l → Edge Tg cj (lastD s l) t → Way Tg cj s (l ++ [t]) := by
  intro l
  induction l with
  | nil => intro s t _ h; exact ⟨h, trivial⟩
  | cons x l ih =>
    intro s t h e
    exact ⟨h.1, ih h.2 e⟩
theorem Way.suffix : ∀ {l1 : List Nat} {s x : Nat} {l2 : List Nat}, Way Tg cj s (l1 ++ x :: l2) → Way Tg cj x l2 := by
  intro l1
  induction l1 with
  | nil => intro s x l2 h; exact h.2
  | cons y l1 ih => intro s x l2 h; exact ih h.2
theorem In.way {s0 v : Nat} (h : In Tg cj s0 v) : ∃ l, l ≠ [] ∧ Way Tg cj s0 l ∧ lastD s0 l = v := by
  induction h with
  | one h => exact ⟨[_], by simp, ⟨h, trivial⟩, rfl⟩
  | more h e ih =>
    obtain ⟨l, h1, h2, h3⟩ := ih
    exact ⟨l ++ [_], by simp, h2.snoc (by rw [h3]; exact e), lastD_mid l _ _ []⟩
theorem rt_of_way {a : α} : ∀ (m : Nat) (l : List Nat) (s : Nat) (P : List Nat), l.length ≤ m → Way Tg cj s l → (∀ x ∈ l, x ∉ P) → (∀ x ∈ P, ¬ Ex x a) → l ≠ [] → Ex (lastD s l) a → Rt Tg cj Ex P s a := by
  intro m
  induction m with
  | zero => intro l s P hl _ _ _ hne; exact absurd (List.length_eq_zero_iff.1 (by omega)) hne
  | succ m ih =>
    intro l s P hl hw hP hE hne hx
    rcases l with _ | ⟨t, l⟩
    · exact absurd rfl hne
    by_cases ht : Ex t a
    · exact .here hw.1 ht hE
    · have hl2 : l ≠ [] := fun e => by subst e; exact ht hx
      have hx2 : Ex (lastD t l) a := hx
      by_cases hm : t ∈ l
      · obtain ⟨l1, l2, rfl⟩ := List.append_of_mem hm
        rw [lastD_mid] at hx2
        have hl3 : l2 ≠ [] := fun e => by subst e; exact ht hx2
        refine ih (t :: l2) s P (by simp at hl ⊢; omega) ⟨hw.1, hw.2.suffix⟩ (fun x hx => hP x ?_) hE (by simp) hx2
        rcases List.mem_cons.1 hx with rfl | h
        · simp
        · simp [h]
      · refine .step hw.1 (hP t (by simp)) (ih l t (P ++ [t]) (by simp at hl; omega) hw.2 (fun x hx => ?_) (fun x hx => ?_) hl2 hx2)
        · simp only [List.mem_append, List.mem_singleton, not_or]
          exact ⟨hP x (by simp [hx]), fun e => hm (e ▸ hx)⟩
        · rcases List.mem_append.1 hx with h | h
          · exact hE x h
          · rw [List.mem_singleton.1 h]; exact ht
/-- whatever a reachable file exports, and the start does not, the first call comes to -/
theorem rt_of_in {s0 v : Nat} {a : α} (h : In Tg cj s0 v) (hv : Ex v a) (h0 : ¬ Ex s0 a) : Rt Tg cj Ex [s0] s0 a := by
  have gen : ∀ (m : Nat) (l : List Nat), l.length ≤ m → l ≠ [] → Way Tg cj s0 l → Ex (lastD s0 l) a → ∃ l2, l2 ≠ [] ∧ Way Tg cj s0 l2 ∧ Ex (lastD s0 l2) a ∧ s0 ∉ l2 := by
    intro m
    induction m with
    | zero => intro l hl hne; exact absurd (List.length_eq_zero_iff.1 (by omega)) hne
    | succ m ih =>
      intro l hl hne hw hx
      by_cases hm : s0 ∈ l
      · obtain ⟨l1, l2, rfl⟩ := List.append_of_mem hm
        rw [lastD_mid] at hx
        have hl3 : l2 ≠ [] := fun e => by subst e; exact h0 hx
        exact ih l2 (by simp at hl; omega) hl3 hw.suffix hx
      · exact ⟨l, hne, hw, hx, hm⟩
  obtain ⟨l, h1, h2, h3⟩ := h.way
  obtain ⟨l2, q1, q2, q3, q4⟩ := gen _ l (Nat.le_refl _) h1 h2 (by rw [h3]; exact hv)
  refine rt_of_way _ l2 s0 [s0] (Nat.le_refl _) q2 (fun x hx e => ?_) (fun x hx => ?_) q1 q3
  · rw [List.mem_singleton.1 e] at hx; exact q4 hx
  · rw [List.mem_singleton.1 hx]; exact h0
/-- .. and only such -/
theorem in_of_rt {s0 : Nat} {P : List Nat} {s : Nat} {a : α} (h : Rt Tg cj Ex P s a) (hs : s = s0 ∨ In Tg cj s0 s) (h0 : s0 ∈ P) : ¬ Ex s0 a ∧ ∃ v, In Tg cj s0 v ∧ Ex v a := by
  have edge : ∀ {u t : Nat}, (u = s0 ∨ In Tg cj s0 u) → Edge Tg cj u t → In Tg cj s0 t := fun hu e => by
    rcases hu with rfl | hu
    · exact .one e
    · exact .more hu e
  induction h with
  | here e hx hP => exact ⟨hP s0 h0, _, edge hs e, hx⟩
  | step e _ _ ih => exact ih (.inr (edge hs e)) (by simp [h0])
end

/-! ### how often -/
def wt (d : Nat → Nat) (n : Nat) (P : List Nat) : Nat := (((List.range n).filter fun u => !P.contains u).map fun u => max 1 (d u)).prod
theorem prod_pos (l : List Nat) (h : ∀ x ∈ l, 1 ≤ x) : 1 ≤ l.prod := by
  induction l with
  | nil => simp
  | cons x l ih =>
    rw [List.prod_cons]
    have h1 := h x (by simp)
    have h2 := ih fun y hy => h y (by simp [hy])
    exact Nat.mul_pos h1 h2
theorem wt_pos (d : Nat → Nat) (n : Nat) (P : List Nat) : 1 ≤ wt d n P := prod_pos _ fun x hx => by
  obtain ⟨u, _, rfl⟩ := List.mem_map.1 hx
  omega
theorem wt_snoc (d : Nat → Nat) {n s : Nat} {p : List Nat} (hs : s < n) (hp : s ∉ p) : wt d n p = max 1 (d s) * wt d n (p ++ [s]) := by
  have gen : ∀ (l : List Nat), l.Nodup → s ∈ l → ((l.filter fun u => !p.contains u).map fun u => max 1 (d u)).prod = max 1 (d s) * ((l.filter fun u => !(p ++ [s]).contains u).map fun u => max 1 (d u)).prod := by
    intro l
    induction l with
    | nil => intro _ h; cases h
    | cons x l ih =>
      intro hn hm
      obtain ⟨hx, hn2⟩ := List.nodup_cons.1 hn
      by_cases e : x = s
      · subst e
        have h1 : (l.filter fun u => !(p ++ [x]).contains u) = l.filter fun u => !p.contains u := by
          refine List.filter_congr fun u hu => ?_
          have hux : u ≠ x := fun e => hx (e ▸ hu)
          simp [hux]
        rw [List.filter_cons_of_pos (by simpa using hp), List.filter_cons_of_neg (by simp), h1, List.map_cons, List.prod_cons]
      · have hm2 : s ∈ l := by
          rcases List.mem_cons.1 hm with h | h
          · exact absurd h.symm e
          · exact h
        by_cases hxp : x ∈ p
        · rw [List.filter_cons_of_neg (by simpa using hxp), List.filter_cons_of_neg (by simp [hxp])]
          exact ih hn2 hm2
        · rw [List.filter_cons_of_pos (by simpa using hxp), List.filter_cons_of_pos (by simp [hxp, e]), List.map_cons, List.prod_cons, List.map_cons, List.prod_cons, ih hn2 hm2, Nat.mul_left_comm]
  exact gen _ List.nodup_range (List.mem_range.2 hs)
/-- at most so often does a call with the stack p (without its own file) push onto one alias's list -/
def bud (d : Nat → Nat) (n : Nat) (p : List Nat) : Nat := (n - p.length) * wt d n p
theorem bud_step (d : Nat → Nat) {n s : Nat} {p : List Nat} (hs : s < n) (hp : s ∉ p) (hl : p.length < n) : d s * (1 + bud d n (p ++ [s])) ≤ bud d n p := by
  unfold bud
  rw [wt_snoc d hs hp, List.length_append, List.length_singleton]
  have hw := wt_pos d n (p ++ [s])
  obtain ⟨m, hm⟩ : ∃ m, n - p.length = m + 1 := ⟨n - p.length - 1, by omega⟩
  rw [hm, show n - (p.length + 1) = m by omega]
  generalize wt d n (p ++ [s]) = W at *
  have h1 : 1 + m * W ≤ (m + 1) * W := by rw [Nat.add_mul]; omega
  have h2 : d s ≤ max 1 (d s) := by omega
  calc d s * (1 + m * W) ≤ max 1 (d s) * ((m + 1) * W) := Nat.mul_le_mul h2 h1
    _ = (m + 1) * (max 1 (d s) * W) := by rw [Nat.mul_left_comm]
theorem nodup_le : ∀ (n : Nat) (l : List Nat), l.Nodup → (∀ x ∈ l, x < n) → l.length ≤ n := by
  intro n
  induction n with
  | zero =>
    intro l _ h
    rcases l with _ | ⟨x, l⟩
    · simp
    · exact absurd (h x (by simp)) (by omega)
  | succ n ih =>
    intro l hn h
    by_cases hm : n ∈ l
    · have h1 := ih (l.erase n) (hn.erase n) (fun x hx => by
        have h2 := h x (List.mem_of_mem_erase hx)
        have h3 : x ≠ n := fun e => by subst e; exact (List.Nodup.not_mem_erase hn) hx
        omega)
      rw [List.length_erase_of_mem hm] at h1
      omega
    · have := ih l hn (fun x hx => by
        have h2 := h x hx
        have h3 : x ≠ n := fun e => hm (e ▸ hx)
        omega)
      omega
theorem nodup_lt {p : List Nat} {n s : Nat} (hn : p.Nodup) (h : ∀ x ∈ p, x < n) (hs : s < n) (hp : s ∉ p) : p.length < n := by
  have h1 : (p ++ [s]).Nodup := List.nodup_append.2 ⟨hn, by simp, fun a ha b hb e => hp (by rw [List.mem_singleton.1 hb] at e; exact e ▸ ha)⟩
  have h2 := nodup_le n (p ++ [s]) h1 fun x hx => by
    rcases List.mem_append.1 hx with h3 | h3
    · exact h x h3
    · rw [List.mem_singleton.1 h3]; exact hs
  rw [List.length_append, List.length_singleton] at h2
  omega
end Go.Proofs.Ytknmcbhcbomjmaa.xs
