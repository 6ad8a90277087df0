/-
  A map[ast.Ref]bool over this seat's program that the call itself has made, as a set of refs.
  Conditions: none.
-/
import Derived.Test.YtbnkhpbgibgahaaRk
namespace Go.Proofs.Ytbnkhpbgibgahaa.rf
open Go.ChangeShapes Go.WideShapes Go.ChangeAt Go.RowKit
open kit ms
open Go.Maps (Keyed)

noncomputable def kl (e : En) : Lit := (keyOf Try.prog 38 (key e)).getD (.bool false)
theorem kl_eq {e : En} (h : okE e) : keyOf Try.prog 38 (key e) = some (kl e) := by
  obtain ⟨l, hl⟩ := key_some h
  unfold kl
  rw [hl]
  rfl
set_option maxRecDepth 100000 in
theorem kl_isKey {e : En} (h : okE e) : WideAt.IsKeyLit (kl e) := K38.key (kl_eq h)
set_option maxRecDepth 100000 in
theorem kl_inj {a b : En} (ha : okE a) (hb : okE b) (h : kl a = kl b) : a.src = b.src ∧ a.inn = b.inn := by
  have e := K38.inj (kl_eq ha) (by rw [h]; exact kl_eq hb)
  unfold key at e
  simp only [Value.agg.injEq, Array.mk.injEq, List.cons.injEq, Value.int.injEq, true_and, and_true] at e
  exact e
set_option maxRecDepth 100000 in
theorem kl_same {a b : En} (ha : okE a) (hb : okE b) : (kl a).sameKey (kl b) = true ↔ a.src = b.src ∧ a.inn = b.inn := by
  rw [WideAt.sameKey_iff (kl_isKey hb)]
  constructor
  · exact kl_inj ha hb
  · rintro ⟨h1, h2⟩
    unfold kl key
    rw [h1, h2]
noncomputable def T : DataW Unit := .lit (.bool true)
noncomputable def D (F : List En) : DataW Unit := Maps.setOf T (F.map kl)
noncomputable def El : Value → Option (DataW Unit × List MemPlace) := plainElem Try.prog 4
set_option maxRecDepth 100000 in
theorem isKeys {F : List En} (h : ∀ e ∈ F, okE e) : ∀ x ∈ F.map kl, WideAt.IsKeyLit x := fun x hx => by
  obtain ⟨e, he, rfl⟩ := List.mem_map.1 hx
  exact kl_isKey (h e he)
set_option maxRecDepth 100000 in
theorem has_iff {F : List En} (h : ∀ e ∈ F, okE e) {e : En} (he : okE e) : Maps.has (D F) (kl e) = true ↔ ∃ x ∈ F, x.src = e.src ∧ x.inn = e.inn := by
  unfold D
  rw [Maps.has_setOf _ _ _ (isKeys h), List.any_map, List.any_eq_true]
  constructor
  · rintro ⟨x, hx, hs⟩
    exact ⟨x, hx, (kl_same (h x hx) he).1 hs⟩
  · rintro ⟨x, hx, hs⟩
    exact ⟨x, hx, (kl_same (h x hx) he).2 hs⟩
theorem D_snoc (F : List En) (e : En) : D (F ++ [e]) = (D F).put (kl e) T := by
  unfold D
  rw [List.map_append]
  exact Maps.setOf_snoc T _ _
set_option maxRecDepth 100000 in
/-- block b is a map that holds just the refs of F -/
structure Rs (w : World) (b : Nat) (F : List En) : Prop where
  ok : ∀ e ∈ F, okE e
  own : w.ownsMap Try.prog 38 El b F.length (D F)
section
variable {w w2 : World} {b : Nat} {F : List En}
set_option maxRecDepth 100000 in
theorem Rs.lt (h : Rs w b F) : b < w.heap.size := h.own.lt
set_option maxRecDepth 100000 in
theorem Rs.block (h : Rs w b F) (hb : w2.heap[b]? = w.heap[b]?) : Rs w2 b F := by
  obtain ⟨es, clock, q, r⟩ := h.own
  exact ⟨h.ok, es, clock, hb.trans q, r⟩
theorem Rs.kept (h : Rs w b F) (k : Kept w w2) : Rs w2 b F := h.block (k.block b h.lt)
set_option maxRecDepth 100000 in
theorem Rs.made (w : World) : Rs (w.alloc (.map #[] 0)) w.heap.size [] := ⟨fun e he => (by cases he), World.ownsMap_made w Try.prog 38 El⟩
set_option maxRecDepth 100000 in
theorem Rs.store (h : Rs w b F) {e : En} (he : okE e) (hl : F.length < 1000000000) :
    ∃ w', (Instr.mapUpdate 32 (.map (some b)) (key e) (.bool true)).run Try.prog w = .ok () w' ∧ Rs w' b (F ++ [e]) ∧ w.grownBy w' (some b) ∧ w'.heap.size = w.heap.size := by
  obtain ⟨w', h1, h2, es, clock, es2, clock2, h3, h4⟩ := h.own.store K38 Try.underlying32 (by unfold maxLen; omega) (val := .bool true) (d := T) (ps := []) (kl_eq he) (plainElem_bool Try.underlying4 true)
  refine ⟨w', h1, ⟨fun x hx => ?_, ?_⟩, World.mapTurned.grown ⟨es, clock, es2, clock2, h3, h4⟩, by rw [h4]; simp [ChangeMaps.setBlock]⟩
  · rcases List.mem_append.1 hx with hx | hx
    · exact h.ok x hx
    · rw [List.mem_singleton.1 hx]; exact he
  · rw [D_snoc, List.length_append]
    exact h2
theorem atKey_fold (k : Lit) (z : DataW Unit) : ∀ (acc : List Lit) (m : DataW Unit), Maps.IsMap m → (∀ x ∈ acc, WideAt.IsKeyLit x) → (m.atKey k z = T ∨ k ∈ acc) → (acc.foldl (fun m x => m.put x T) m).atKey k z = T := by
  intro acc
  induction acc with
  | nil => intro m _ _ h; rcases h with h | h; · exact h
           · cases h
  | cons x r ih =>
    intro m hm hk h
    rw [List.foldl_cons]
    refine ih _ (hm.put x T) (fun y hy => hk y (by simp [hy])) ?_
    by_cases e : k = x
    · subst e
      exact .inl (Maps.atKey_put_same hm (hk k (by simp)) T z)
    · rcases h with h | h
      · exact .inl ((Maps.atKey_put_other e T z).trans h)
      · rcases List.mem_cons.1 h with h | h
        · exact absurd h e
        · exact .inr h
set_option maxRecDepth 100000 in
theorem Rs.look (h : Rs w b F) {e : En} (he : okE e) (hm : ∃ x ∈ F, x.src = e.src ∧ x.inn = e.inn) : (Instr.lookup 32 (.map (some b)) (key e) false).run Try.prog w = .ok (.bool true) w := by
  obtain ⟨v, ps, h1, h2⟩ := h.own.lookup K38 Try.underlying32 (z := .bool false) (by kernel_rfl) (zd := .lit (.bool false)) (zp := []) (plainElem_bool Try.underlying4 false) (kl_eq he)
  obtain ⟨x, hx, e1, e2⟩ := hm
  have ek : kl x = kl e := by unfold kl key; rw [e1, e2]
  have hT : (D F).atKey (kl e) (.lit (.bool false)) = T := atKey_fold _ _ _ _ Maps.isMap_empty (isKeys h.ok) (.inr (by rw [← ek]; exact List.mem_map.2 ⟨x, hx, rfl⟩))
  rw [hT] at h2
  have : v = .bool true := by
    unfold El plainElem at h2
    rw [Try.underlying4] at h2
    cases v <;> simp [T] at h2
    obtain ⟨rfl, _⟩ := h2
    rfl
  rw [h1, this]
set_option maxRecDepth 100000 in
theorem Rs.len (h : Rs w b F) : ∀ ty, (Builtin.len_ #[32] ty #[.map (some b)]).run Try.prog w = .ok (.int .i64 (Maps.size (D F))) w := fun ty => h.own.len Try.underlying32 ty
set_option maxRecDepth 100000 in
theorem Rs.size_le (h : Rs w b F) : Maps.size (D F) ≤ F.length := h.own.size_le
set_option maxRecDepth 100000 in
/-- without doubles the map has as many entries as the list -/
theorem size_nodup (h : ∀ e ∈ F, okE e) (hd : F.Pairwise (fun a c => ¬ (a.src = c.src ∧ a.inn = c.inn))) : Maps.size (D F) = F.length := by
  unfold D
  rw [Maps.size_setOf _ _ (isKeys h)]
  have gen : ∀ (G A : List En), (∀ e ∈ A ++ G, okE e) → (A ++ G).Pairwise (fun a c => ¬ (a.src = c.src ∧ a.inn = c.inn)) → ((G.map kl).foldl Maps.addKey (A.map kl)).length = A.length + G.length := by
    intro G
    induction G with
    | nil => intro A _ _; simp
    | cons g G ih =>
      intro A hA hp
      rw [List.map_cons, List.foldl_cons]
      have hno : (A.map kl).any (fun y => y.sameKey (kl g)) = false := by
        rw [List.any_map, List.any_eq_false]
        intro x hx hs
        have := (List.pairwise_append.1 hp).2.2 x hx g (by simp)
        exact this ((kl_same (hA x (by simp [hx])) (hA g (by simp))).1 hs)
      have e : Maps.addKey (A.map kl) (kl g) = (A ++ [g]).map kl := by
        unfold Maps.addKey
        rw [hno]
        simp
      rw [e, ih (A ++ [g]) (by simpa using hA) (by simpa using hp)]
      simp
      omega
  have := gen F [] (by simpa using h) (by simpa using hd)
  simpa using this
end
end Go.Proofs.Ytbnkhpbgibgahaa.rf
