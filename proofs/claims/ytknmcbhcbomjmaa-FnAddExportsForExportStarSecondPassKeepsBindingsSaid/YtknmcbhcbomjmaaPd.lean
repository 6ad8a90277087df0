/-
  The worklist over export stars and the set of names seen, in plain terms.
  Conditions: none; no program in sight.
-/
import Derived.Test.YtknmcbhcbomjmaaPc
import Derived.Test.YtknmcbhcbomjmaaMapF
namespace Go.Proofs.Ytknmcbhcbomjmaa.xs
open kit

def updB (R : Nat → Bool) (t : Nat) : Nat → Bool := fun x => if x = t then true else R x
theorem updB_mono {R : Nat → Bool} {t x : Nat} (h : R x = true) : updB R t x = true := by
  unfold updB
  split
  · rfl
  · exact h
theorem updB_same (R : Nat → Bool) (t : Nat) : updB R t t = true := if_pos rfl
theorem updB_or {R : Nat → Bool} {t x : Nat} (h : updB R t x = true) : x = t ∨ R x = true := by
  unfold updB at h
  split at h
  · rename_i e
    exact .inl e
  · exact .inr h
section
variable (Tg : Nat → List Nat) (cj : Nat → Bool) (s0 n : Nat)
structure Wl (R X : Nat → Bool) (wk : List Nat) : Prop where
  xr : ∀ v, X v = true ↔ v = s0 ∨ R v = true
  sound : ∀ v, R v = true → In Tg cj s0 v
  low : ∀ u ∈ wk, u < n ∧ X u = true
  done : ∀ u, X u = true → u ∉ wk → ∀ t, Edge Tg cj u t → R t = true
/-- u is under way, its targets D are through -/
structure Wi (u : Nat) (D : List Nat) (R X : Nat → Bool) (wk : List Nat) : Prop where
  xr : ∀ v, X v = true ↔ v = s0 ∨ R v = true
  sound : ∀ v, R v = true → In Tg cj s0 v
  low : ∀ u ∈ wk, u < n ∧ X u = true
  cur : X u = true
  done : ∀ x, X x = true → x ∉ wk → x ≠ u → ∀ t, Edge Tg cj x t → R t = true
  part : ∀ t ∈ D, cj t = false → R t = true
variable {Tg cj s0 n} {R X : Nat → Bool} {wk : List Nat} {u t : Nat} {D : List Nat}
theorem Wl.start (hs : s0 < n) : Wl Tg cj s0 n (fun _ => false) (updB (fun _ => false) s0) [s0] := by
  refine ⟨fun v => ⟨fun h => .inl ((updB_or h).resolve_right (by simp)), fun h => ?_⟩, fun v h => (by cases h), fun u hu => ?_, fun u hu hn => ?_⟩
  · rcases h with rfl | h
    · exact updB_same _ _
    · cases h
  · rw [List.mem_singleton.1 hu]
    exact ⟨hs, updB_same _ _⟩
  · rcases updB_or hu with rfl | h
    · exact absurd (by simp) hn
    · cases h
theorem Wl.pop (h : Wl Tg cj s0 n R X (wk ++ [u])) : Wi Tg cj s0 n u [] R X wk :=
  ⟨h.xr, h.sound, fun x hx => h.low x (by simp [hx]), (h.low u (by simp)).2, fun x hx hn hne => h.done x hx (by simp [hn, hne]), fun t ht => (by cases ht)⟩
theorem Wi.skip (h : Wi Tg cj s0 n u D R X wk) (hc : cj t = true) : Wi Tg cj s0 n u (D ++ [t]) R X wk :=
  ⟨h.xr, h.sound, h.low, h.cur, h.done, fun x hx hx2 => by
    rcases List.mem_append.1 hx with hx | hx
    · exact h.part x hx hx2
    · rw [List.mem_singleton.1 hx, hc] at hx2
      cases hx2⟩
theorem Wi.arc (h : Wi Tg cj s0 n u D R X wk) (he : Edge Tg cj u t) : In Tg cj s0 t := by
  rcases (h.xr u).1 h.cur with e | e
  · rw [e] at he; exact .one he
  · exact .more (h.sound u e) he
/-- the target was expanded before -/
theorem Wi.old (h : Wi Tg cj s0 n u D R X wk) (he : Edge Tg cj u t) (hx : X t = true) : Wi Tg cj s0 n u (D ++ [t]) (updB R t) X wk := by
  refine ⟨fun v => ?_, fun v hv => ?_, h.low, h.cur, fun x q1 q2 q3 t2 q4 => updB_mono (h.done x q1 q2 q3 t2 q4), fun x hx1 hx2 => ?_⟩
  · rw [h.xr v]
    constructor
    · rintro (e | e)
      · exact .inl e
      · exact .inr (updB_mono e)
    · rintro (e | e)
      · exact .inl e
      · rcases updB_or e with rfl | e
        · exact (h.xr v).1 hx
        · exact .inr e
  · rcases updB_or hv with rfl | hv
    · exact h.arc he
    · exact h.sound v hv
  · rcases List.mem_append.1 hx1 with hx1 | hx1
    · exact updB_mono (h.part x hx1 hx2)
    · rw [List.mem_singleton.1 hx1]; exact updB_same _ _
/-- it was not -/
theorem Wi.new (h : Wi Tg cj s0 n u D R X wk) (he : Edge Tg cj u t) (ht : t < n) : Wi Tg cj s0 n u (D ++ [t]) (updB R t) (updB X t) (wk ++ [t]) := by
  refine ⟨fun v => ?_, fun v hv => ?_, fun x hx => ?_, updB_mono h.cur, fun x q1 q2 q3 t2 q4 => ?_, fun x hx1 hx2 => ?_⟩
  · constructor
    · intro e
      rcases updB_or e with rfl | e
      · exact .inr (updB_same _ _)
      · rcases (h.xr v).1 e with e | e
        · exact .inl e
        · exact .inr (updB_mono e)
    · rintro (e | e)
      · exact updB_mono ((h.xr v).2 (.inl e))
      · rcases updB_or e with rfl | e
        · exact updB_same _ _
        · exact updB_mono ((h.xr v).2 (.inr e))
  · rcases updB_or hv with rfl | hv
    · exact h.arc he
    · exact h.sound v hv
  · rcases List.mem_append.1 hx with hx | hx
    · exact ⟨(h.low x hx).1, updB_mono (h.low x hx).2⟩
    · rw [List.mem_singleton.1 hx]; exact ⟨ht, updB_same _ _⟩
  · rcases updB_or q1 with rfl | q1
    · exact absurd (by simp) q2
    · exact updB_mono (h.done x q1 (fun c => q2 (by simp [c])) q3 t2 q4)
  · rcases List.mem_append.1 hx1 with hx1 | hx1
    · exact updB_mono (h.part x hx1 hx2)
    · rw [List.mem_singleton.1 hx1]; exact updB_same _ _
theorem Wi.fin (h : Wi Tg cj s0 n u D R X wk) (hD : ∀ t ∈ Tg u, t ∈ D) : Wl Tg cj s0 n R X wk :=
  ⟨h.xr, h.sound, h.low, fun x q1 q2 t he => by
    by_cases e : x = u
    · rw [e] at he; exact h.part t (hD t he.1) he.2
    · exact h.done x q1 q2 e t he⟩
theorem Wl.ends (h : Wl Tg cj s0 n R X []) (v : Nat) : R v = true ↔ In Tg cj s0 v := by
  refine ⟨h.sound v, fun q => ?_⟩
  induction q with
  | one he => exact h.done s0 ((h.xr s0).2 (.inl rfl)) (by simp) _ he
  | more _ he ih => exact h.done _ ((h.xr _).2 (.inr ih)) (by simp) _ he
end

/-! ### names seen -/
noncomputable def setV (S : ByteArray → Prop) : Value → Option Value := fun v => open Classical in
  match v with
  | .string s => if S s then some (.bool true) else none
  | _ => none
theorem setV_put (S : ByteArray → Prop) (a : ByteArray) : mapf.put (setV S) (.string a) (.bool true) = setV (fun x => S x ∨ x = a) := by
  funext v
  by_cases e : v = .string a
  · subst e
    rw [mapf.put_same]
    simp [setV]
  · rw [mapf.put_ne _ _ e]
    cases v <;> try rfl
    rename_i s
    have : s ≠ a := fun c => e (by rw [c])
    unfold setV
    simp only
    by_cases c : S s
    · rw [if_pos c, if_pos (.inl c)]
    · rw [if_neg c, if_neg (fun q => q.elim c this)]
theorem setV_none : setV (fun _ => False) = fun _ => none := by
  funext v
  cases v <;> try rfl
  simp [setV]
theorem setV_is (S : ByteArray → Prop) (a : ByteArray) : (setV S (.string a)).isSome = true ↔ S a := by
  unfold setV
  simp only
  split
  · rename_i h
    exact ⟨fun _ => h, fun _ => rfl⟩
  · rename_i h
    exact ⟨fun c => (by cases c), fun c => absurd c h⟩
theorem setV_val (S : ByteArray → Prop) (a : ByteArray) : (setV S (.string a)).getD (.bool false) = .bool (setV S (.string a)).isSome := by
  unfold setV
  simp only
  split <;> rfl

/-- the names that are counted: those seen that the table has -/
structure Sn (ρ : ByteArray → Option Ent) (S : ByteArray → Prop) (dl : List ByteArray) : Prop where
  nd : dl.Nodup
  mem : ∀ x, x ∈ dl ↔ S x ∧ (ρ x).isSome = true
theorem Sn.start (ρ : ByteArray → Option Ent) : Sn ρ (fun _ => False) [] := ⟨List.nodup_nil, fun x => ⟨fun h => (by cases h), fun h => h.1.elim⟩⟩
theorem Sn.yes {ρ : ByteArray → Option Ent} {S : ByteArray → Prop} {dl : List ByteArray} (h : Sn ρ S dl) {a : ByteArray} (ha : ¬ S a) (hr : (ρ a).isSome = true) : Sn ρ (fun x => S x ∨ x = a) (dl ++ [a]) := by
  refine ⟨List.nodup_append.2 ⟨h.nd, by simp, fun x hx y hy e => ?_⟩, fun x => ?_⟩
  · rw [List.mem_singleton.1 hy] at e
    subst e
    exact ha ((h.mem x).1 hx).1
  · rw [List.mem_append, h.mem x, List.mem_singleton]
    constructor
    · rintro (⟨c1, c2⟩ | rfl)
      · exact ⟨.inl c1, c2⟩
      · exact ⟨.inr rfl, hr⟩
    · rintro ⟨c1 | rfl, c2⟩
      · exact .inl ⟨c1, c2⟩
      · exact .inr rfl
theorem Sn.no {ρ : ByteArray → Option Ent} {S : ByteArray → Prop} {dl : List ByteArray} (h : Sn ρ S dl) {a : ByteArray} (hr : (ρ a).isSome = false) : Sn ρ (fun x => S x ∨ x = a) dl := by
  refine ⟨h.nd, fun x => ?_⟩
  rw [h.mem x]
  constructor
  · rintro ⟨c1, c2⟩
    exact ⟨.inl c1, c2⟩
  · rintro ⟨c1 | rfl, c2⟩
    · exact ⟨c1, c2⟩
    · rw [hr] at c2; cases c2

/-! ### how many entries a map has -/
theorem nodup_sub_le {α : Type} : ∀ {l m : List α}, l.Nodup → (∀ x ∈ l, x ∈ m) → l.length ≤ m.length := by
  intro l
  induction l with
  | nil => intro m _ _; exact Nat.zero_le _
  | cons x l ih =>
    intro m hn hs
    obtain ⟨m1, m2, rfl⟩ := List.append_of_mem (hs x (by simp))
    obtain ⟨h1, h2⟩ := List.nodup_cons.1 hn
    have := ih (m := m1 ++ m2) h2 fun y hy => by
      have q := hs y (by simp [hy])
      have e : y ≠ x := fun c => h1 (c ▸ hy)
      simp only [List.mem_append, List.mem_cons] at q ⊢
      rcases q with q | q | q
      · exact .inl q
      · exact absurd q e
      · exact .inr q
    simp at this ⊢
    omega
theorem mapF_keys {P : Program} {k : TypeId} {w : World} {b n : Nat} {f : Value → Option Value} (h : mapf.MapF P k w b n f) : ∃ ks : List Value, ks.length = n ∧ ks.Nodup ∧ ∀ v, v ∈ ks ↔ (f v).isSome = true := by
  obtain ⟨es, c, _, h1, _, h2, h3, h4⟩ := h
  refine ⟨es.toList.map (·.key), by simpa using h1, ?_, fun v => ?_⟩
  · rw [List.Nodup, List.pairwise_map]
    exact h4
  · rw [List.mem_map]
    constructor
    · rintro ⟨e, he, rfl⟩
      rw [h2 e he]; rfl
    · intro q
      obtain ⟨x, hx⟩ := Option.isSome_iff_exists.1 q
      obtain ⟨e, he, h5⟩ := h3 v x hx
      exact ⟨e, he, h5⟩
theorem mapF_count {P : Program} {k : TypeId} {w w2 : World} {b b2 n n2 : Nat} {f f2 : Value → Option Value} (h : mapf.MapF P k w b n f) (h2 : mapf.MapF P k w2 b2 n2 f2) (he : ∀ v, (f v).isSome = (f2 v).isSome) : n = n2 := by
  obtain ⟨ks, l1, d1, m1⟩ := mapF_keys h
  obtain ⟨ks2, l2, d2, m2⟩ := mapF_keys h2
  have a := nodup_sub_le d1 (m := ks2) fun x hx => (m2 x).2 ((he x).symm.trans ((m1 x).1 hx))
  have b := nodup_sub_le d2 (m := ks) fun x hx => (m1 x).2 ((he x).trans ((m2 x).1 hx))
  omega
theorem resV_is (V : ByteArray → Value) (ρ : ByteArray → Option Ent) (a : ByteArray) : (resV V ρ (.string a)).isSome = (ρ a).isSome := by simp [resV]
theorem resV_dom {V : ByteArray → Value} {ρ : ByteArray → Option Ent} {v : Value} (h : (resV V ρ v).isSome = true) : ∃ a, v = .string a := by
  cases v <;> first | exact ⟨_, rfl⟩ | cases h
theorem count_res {P : Program} {k : TypeId} {w : World} {b n : Nat} {V : ByteArray → Value} {ρ : ByteArray → Option Ent} (h : mapf.MapF P k w b n (resV V ρ)) {S : ByteArray → Prop} {dl : List ByteArray} (g : Sn ρ S dl) (hS : ∀ x, (ρ x).isSome = true → S x) : dl.length = n := by
  obtain ⟨ks, l1, d1, m1⟩ := mapF_keys h
  have d2 : (dl.map Value.string).Nodup := by
    rw [List.Nodup, List.pairwise_map]
    exact g.nd.imp fun h e => h (by injection e)
  have a := nodup_sub_le d1 (m := dl.map Value.string) fun x hx => by
    have hx := (m1 x).1 hx
    obtain ⟨s, rfl⟩ := resV_dom hx
    rw [resV_is] at hx
    exact List.mem_map.2 ⟨s, (g.mem s).2 ⟨hS s hx, hx⟩, rfl⟩
  have b := nodup_sub_le d2 (m := ks) fun x hx => by
    obtain ⟨s, hs, rfl⟩ := List.mem_map.1 hx
    exact (m1 _).2 (by rw [resV_is]; exact ((g.mem s).1 hs).2)
  rw [List.length_map] at a b
  omega
theorem same_size {P : Program} {k : TypeId} {w w2 : World} {b b2 n n2 : Nat} {V V2 : ByteArray → Value} {ρ ρ2 : ByteArray → Option Ent} (h : mapf.MapF P k w b n (resV V ρ)) (h2 : mapf.MapF P k w2 b2 n2 (resV V2 ρ2)) (he : ∀ a, (ρ2 a).isSome = (ρ a).isSome) : n2 = n := by
  refine mapF_count h2 h fun v => ?_
  cases v <;> try rfl
  rw [resV_is, resV_is]
  exact he _
theorem sum_part (b : Nat → Nat) {k n : Nat} (h : k ≤ n) : ((List.range k).map b).sum ≤ ((List.range n).map b).sum := by
  induction h with
  | refl => exact Nat.le_refl _
  | step _ ih => rw [List.range_succ, List.map_append, List.sum_append]; simp; omega
theorem sum_succ (b : Nat → Nat) (k : Nat) : ((List.range (k + 1)).map b).sum = ((List.range k).map b).sum + b k := by
  rw [List.range_succ, List.map_append, List.sum_append]
  simp
end Go.Proofs.Ytknmcbhcbomjmaa.xs
