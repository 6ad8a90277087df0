/-
  The plain law of tsClosure: a worklist over parts marks what is reached; what it weighs.
  Conditions: none.
-/
import Derived.Test.YtbdchplgefgkjabTf2
namespace Go.Proofs.Ytbdchplgefgkjab.tm
open Go.ChangeShapes Go.WideShapes Go.ChangeAt Go.RowKit
open kit dfs

/-- the worklist's state; Q: the edges that are still to be looked at -/
structure Wl (F : Ct) (R0 : Nd → Bool) (s : Nat × Nat) (Q : Nd → Nd → Prop) (R : Nd → Bool) (wk : List (Nat × Nat)) : Prop where
  old : ∀ x, R0 x = true → R x = true
  sound : ∀ x, R x = true → R0 x = true ∨ Rch (succ F) (.inr s) x
  soundW : ∀ v ∈ wk, Rch (succ F) (.inr s) (.inr v)
  start : R (.inr s) = true ∨ s ∈ wk
  closed : ∀ x, R x = true → ∀ t ∈ succ F x, R t = true ∨ (∃ v ∈ wk, t = .inr v) ∨ Q x t
def QD (F : Ct) (d : Nat × Nat) (k : Nat) (x t : Nd) : Prop := x = .inr d ∧ ∃ i, k ≤ i ∧ ∃ h : i < (deps F d.1 d.2).length, t = .inr (deps F d.1 d.2)[i]
def QF (F : Ct) (f j : Nat) (x t : Nd) : Prop := x = .inl f ∧ ∃ p, j ≤ p ∧ p < np F f ∧ keep F f p = true ∧ t = .inr (f, p)
def QB (F : Ct) (d : Nat × Nat) (j : Nat) (x t : Nd) : Prop := QD F d 0 x t ∨ QF F d.1 j x t
def no (_ _ : Nd) : Prop := False
section
variable {F : Ct} {R0 R : Nd → Bool} {s d : Nat × Nat} {wk : List (Nat × Nat)} {Q Q2 : Nd → Nd → Prop}
theorem succ_deps (d : Nat × Nat) (t : Nd) (h : t ∈ (deps F d.1 d.2).map (Sum.inr : Nat × Nat → Nd)) : QD F d 0 (.inr d) t := by
  obtain ⟨v, hv, rfl⟩ := List.mem_map.1 h
  obtain ⟨i, hi, rfl⟩ := List.getElem_of_mem hv
  exact ⟨rfl, i, Nat.zero_le _, hi, rfl⟩
theorem Wl.init (hc : ∀ x, R0 x = true → ∀ t ∈ succ F x, R0 t = true) : Wl F R0 s no R0 [s] :=
  ⟨fun _ h => h, fun _ h => .inl h, fun v hv => by rw [List.mem_singleton.1 hv]; exact .start, .inr (by simp), fun x hx t ht => .inl (hc x hx t ht)⟩
theorem Wl.skip (h : Wl F R0 s no R (wk ++ [d])) (hd : R (.inr d) = true) : Wl F R0 s no R wk :=
  ⟨h.old, h.sound, fun v hv => h.soundW v (by simp [hv]), by
    rcases h.start with c | c
    · exact .inl c
    · rcases List.mem_append.1 c with c | c
      · exact .inr c
      · rw [List.mem_singleton.1 c]; exact .inl hd, fun x hx t ht => by
    rcases h.closed x hx t ht with c | ⟨v, hv, e⟩ | c
    · exact .inl c
    · rcases List.mem_append.1 hv with hv | hv
      · exact .inr (.inl ⟨v, hv, e⟩)
      · rw [List.mem_singleton.1 hv] at e; rw [e]; exact .inl hd
    · exact c.elim⟩
/-- the part is marked, its file was -/
theorem Wl.markOld (h : Wl F R0 s no R (wk ++ [d])) (hf : R (.inl d.1) = true) : Wl F R0 s (QD F d 0) (upd R (.inr d) true) wk :=
  ⟨fun x hx => upd_up (h.old x hx), fun x hx => by
    by_cases e : x = .inr d
    · rw [e]; exact .inr (h.soundW d (by simp))
    · rw [upd_ne _ _ e] at hx; exact h.sound x hx, fun v hv => h.soundW v (by simp [hv]), by
    rcases h.start with c | c
    · exact .inl (upd_up c)
    · rcases List.mem_append.1 c with c | c
      · exact .inr c
      · rw [List.mem_singleton.1 c]; exact .inl (upd_same _ _ _), fun x hx t ht => by
    by_cases e : x = .inr d
    · subst e
      rcases List.mem_cons.1 ht with c | c
      · rw [c]; exact .inl (upd_up hf)
      · exact .inr (.inr (succ_deps d t c))
    · rw [upd_ne _ _ e] at hx
      rcases h.closed x hx t ht with c | ⟨v, hv, e2⟩ | c
      · exact .inl (upd_up c)
      · rcases List.mem_append.1 hv with hv | hv
        · exact .inr (.inl ⟨v, hv, e2⟩)
        · rw [List.mem_singleton.1 hv] at e2; rw [e2]; exact .inl (upd_same _ _ _)
      · exact c.elim⟩
/-- the part is marked, and its file with it -/
theorem Wl.markNew (h : Wl F R0 s no R (wk ++ [d])) : Wl F R0 s (QB F d 0) (upd (upd R (.inr d) true) (.inl d.1) true) wk :=
  ⟨fun x hx => upd_up (upd_up (h.old x hx)), fun x hx => by
    by_cases e1 : x = .inl d.1
    · rw [e1]
      exact .inr (.step (h.soundW d (by simp)) (List.mem_cons_self ..))
    · rw [upd_ne _ _ e1] at hx
      by_cases e : x = .inr d
      · rw [e]; exact .inr (h.soundW d (by simp))
      · rw [upd_ne _ _ e] at hx; exact h.sound x hx, fun v hv => h.soundW v (by simp [hv]), by
    rcases h.start with c | c
    · exact .inl (upd_up (upd_up c))
    · rcases List.mem_append.1 c with c | c
      · exact .inr c
      · rw [List.mem_singleton.1 c]; exact .inl (upd_up (upd_same _ _ _)), fun x hx t ht => by
    by_cases e : x = .inr d
    · subst e
      rcases List.mem_cons.1 ht with c | c
      · rw [c]; exact .inl (upd_same _ _ _)
      · exact .inr (.inr (.inl (succ_deps d t c)))
    · by_cases e1 : x = .inl d.1
      · subst e1
        obtain ⟨p, hp, e3⟩ := List.mem_map.1 ht
        obtain ⟨hp1, hp2⟩ := List.mem_filter.1 hp
        exact .inr (.inr (.inr ⟨rfl, p, Nat.zero_le _, List.mem_range.1 hp1, hp2, e3.symm⟩))
      · rw [upd_ne _ _ e1, upd_ne _ _ e] at hx
        rcases h.closed x hx t ht with c | ⟨v, hv, e2⟩ | c
        · exact .inl (upd_up (upd_up c))
        · rcases List.mem_append.1 hv with hv | hv
          · exact .inr (.inl ⟨v, hv, e2⟩)
          · rw [List.mem_singleton.1 hv] at e2; rw [e2]; exact .inl (upd_up (upd_same _ _ _))
        · exact c.elim⟩
theorem Wl.weak (h : Wl F R0 s Q R wk) (hq : ∀ x t, Q x t → Q2 x t) : Wl F R0 s Q2 R wk :=
  ⟨h.old, h.sound, h.soundW, h.start, fun x hx t ht => (h.closed x hx t ht).elim .inl fun c => c.elim (fun c => .inr (.inl c)) fun c => .inr (.inr (hq x t c))⟩
theorem Wl.push (h : Wl F R0 s Q R wk) {v : Nat × Nat} (hv : Rch (succ F) (.inr s) (.inr v)) (hq : ∀ x t, Q x t → Q2 x t ∨ t = .inr v) : Wl F R0 s Q2 R (wk ++ [v]) :=
  ⟨h.old, h.sound, fun u hu => (List.mem_append.1 hu).elim (h.soundW u) (fun c => by rw [List.mem_singleton.1 c]; exact hv), h.start.elim .inl (fun c => .inr (by simp [c])), fun x hx t ht => by
    rcases h.closed x hx t ht with c | ⟨u, hu, e2⟩ | c
    · exact .inl c
    · exact .inr (.inl ⟨u, by simp [hu], e2⟩)
    · rcases hq x t c with c | c
      · exact .inr (.inr c)
      · exact .inr (.inl ⟨v, by simp, c⟩)⟩
theorem QB.next {j : Nat} (hk : keep F d.1 j = false) : ∀ x t, QB F d j x t → QB F d (j + 1) x t := fun x t h => by
  rcases h with h | ⟨h1, p, h2, h3, h4, h5⟩
  · exact .inl h
  · refine .inr ⟨h1, p, ?_, h3, h4, h5⟩
    by_cases e : p = j
    · rw [e, hk] at h4; cases h4
    · omega
theorem QB.push {j : Nat} : ∀ x t, QB F d j x t → QB F d (j + 1) x t ∨ t = .inr (d.1, j) := fun x t h => by
  rcases h with h | ⟨h1, p, h2, h3, h4, h5⟩
  · exact .inl (.inl h)
  · by_cases e : p = j
    · rw [e] at h5; exact .inr h5
    · exact .inl (.inr ⟨h1, p, by omega, h3, h4, h5⟩)
theorem QB.fin : ∀ x t, QB F d (np F d.1) x t → QD F d 0 x t := fun x t h => by
  rcases h with h | ⟨_, p, h2, h3, _⟩
  · exact h
  · omega
theorem QD.push {k : Nat} (hk : k < (deps F d.1 d.2).length) : ∀ x t, QD F d k x t → QD F d (k + 1) x t ∨ t = .inr (deps F d.1 d.2)[k] := fun x t h => by
  obtain ⟨h1, i, h2, h3, h4⟩ := h
  by_cases e : i = k
  · subst e; exact .inr h4
  · exact .inl ⟨h1, i, by omega, h3, h4⟩
theorem QD.fin : ∀ x t, QD F d (deps F d.1 d.2).length x t → no x t := fun x t h => by
  obtain ⟨_, i, h2, h3, _⟩ := h
  omega
theorem Wl.fin (h : Wl F R0 s no R []) : (∀ x, R x = true ↔ R0 x = true ∨ Rch (succ F) (.inr s) x) ∧ ∀ x, R x = true → ∀ t ∈ succ F x, R t = true := by
  have hc : ∀ x, R x = true → ∀ t ∈ succ F x, R t = true := fun x hx t ht => by
    rcases h.closed x hx t ht with c | ⟨v, hv, _⟩ | c
    · exact c
    · cases hv
    · exact c.elim
  refine ⟨fun x => ⟨h.sound x, fun c => ?_⟩, hc⟩
  rcases c with c | c
  · exact h.old x c
  · induction c with
    | start =>
      rcases h.start with c | c
      · exact c
      · cases c
    | step _ h3 ih => exact hc _ ih _ h3
end

/-- what the nodes that are not marked weigh -/
def pw (F : Ct) (R : Nd → Bool) (f : Nat) : Nat → Nat
  | 0 => 0
  | j + 1 => pw F R f j + if R (.inr (f, j)) = true then 0 else (deps F f j).length
def wt (F : Ct) (R : Nd → Bool) : Nat → Nat
  | 0 => 0
  | k + 1 => wt F R k + (if R (.inl k) = true then 0 else np F k) + pw F R k (np F k)
section
variable {F : Ct} {R R2 : Nd → Bool}
theorem pw_congr {f j : Nat} (h : ∀ p, p < j → R (.inr (f, p)) = R2 (.inr (f, p))) : pw F R f j = pw F R2 f j := by
  induction j with
  | zero => rfl
  | succ j ih => simp only [pw]; rw [ih (fun p hp => h p (by omega)), h j (by omega)]
theorem wt_congr {k : Nat} (h1 : ∀ f, f < k → R (.inl f) = R2 (.inl f)) (h2 : ∀ f p, f < k → p < np F f → R (.inr (f, p)) = R2 (.inr (f, p))) : wt F R k = wt F R2 k := by
  induction k with
  | zero => rfl
  | succ k ih =>
    simp only [wt]
    rw [ih (fun f hf => h1 f (by omega)) (fun f p hf hp => h2 f p (by omega) hp), h1 k (by omega), pw_congr (fun p hp => h2 k p (by omega) hp)]
theorem pw_le (R : Nd → Bool) (f j : Nat) : pw F R f j ≤ dsum F f j := by
  induction j with
  | zero => exact Nat.le_refl _
  | succ j ih => simp only [pw, dsum]; split <;> omega
theorem wt_le (R : Nd → Bool) (k : Nat) : wt F R k ≤ tot F k := by
  induction k with
  | zero => exact Nat.le_refl _
  | succ k ih =>
    have := pw_le (F := F) R k (np F k)
    simp only [wt, tot]
    split <;> omega
theorem pw_mark {f p j : Nat} (hp : p < j) (h : R (.inr (f, p)) = false) : pw F (upd R (.inr (f, p)) true) f j + (deps F f p).length = pw F R f j := by
  induction j with
  | zero => omega
  | succ j ih =>
    simp only [pw]
    by_cases e : p = j
    · subst e
      rw [upd_same, h, pw_congr (R := upd R (.inr (f, p)) true) (R2 := R) (fun q hq => upd_ne _ _ (fun c => by have := congrArg Prod.snd (Sum.inr.inj c); simp at this; omega))]
      simp
    · rw [upd_ne _ _ (fun c => e (by have := congrArg Prod.snd (Sum.inr.inj c); simp at this; omega))]
      have := ih (by omega)
      omega
theorem wt_markP {f p k : Nat} (hf : f < k) (hp : p < np F f) (h : R (.inr (f, p)) = false) : wt F (upd R (.inr (f, p)) true) k + (deps F f p).length = wt F R k := by
  induction k with
  | zero => omega
  | succ k ih =>
    simp only [wt]
    rw [upd_ne _ _ (by simp)]
    by_cases e : f = k
    · subst e
      have h1 := pw_mark (F := F) hp h
      have h2 := wt_congr (F := F) (R := upd R (.inr (f, p)) true) (R2 := R) (k := f) (fun g _ => upd_ne _ _ (by simp)) (fun g q hg _ => upd_ne _ _ (fun c => by have := congrArg Prod.fst (Sum.inr.inj c); simp at this; omega))
      omega
    · have h1 := pw_congr (F := F) (R := upd R (.inr (f, p)) true) (R2 := R) (f := k) (j := np F k) (fun q _ => upd_ne _ _ (fun c => e (by have := congrArg Prod.fst (Sum.inr.inj c); simp at this; omega)))
      have := ih (by omega)
      omega
theorem wt_markF {f k : Nat} (hf : f < k) (h : R (.inl f) = false) : wt F (upd R (.inl f) true) k + np F f = wt F R k := by
  induction k with
  | zero => omega
  | succ k ih =>
    simp only [wt]
    have h1 := pw_congr (F := F) (R := upd R (.inl f) true) (R2 := R) (f := k) (j := np F k) (fun q _ => upd_ne _ _ (by simp))
    by_cases e : f = k
    · subst e
      rw [upd_same, h]
      have h2 := wt_congr (F := F) (R := upd R (.inl f) true) (R2 := R) (k := f) (fun g hg => upd_ne _ _ (fun c => by have := Sum.inl.inj c; omega)) (fun g q hg _ => upd_ne _ _ (by simp))
      simp
      omega
    · rw [upd_ne _ _ (fun c => e (Sum.inl.inj c).symm)]
      have := ih (by omega)
      omega
end
end Go.Proofs.Ytbdchplgefgkjab.tm
