/-
  The tables that the call turns, in memory over this seat's program: an alias laid, a binding laid, an ambiguous other pushed; the append that keeps the old slice.
  Conditions: none.
-/
import Derived.Test.YtknmcbhcbomjmaaSx
namespace Go.Proofs.Ytknmcbhcbomjmaa.xs
open Go.ChangeShapes Go.WideShapes Go.ChangeAt Go.RowKit
open kit mapf
open Go.Maps (Keyed)
open Go.ChangeMaps (setBlock)

/-- the table (ρ, of R aliases, their lists of others in V's slices) and the bindings (β i, of bn i entries) -/
structure St (L : Lay) (w : World) (V : ByteArray → Value) (ρ : ByteArray → Option Ent) (R : Nat) (β : Nat → Nat × Nat → Bool) (bn : Nat → Nat) : Prop where
  res : MapF Try.prog 9 w L.RES R (resV V ρ)
  amb : ∀ a e, ρ a = some e → w.ownsRow L.B0 53 5 (V a) e.amb.length (ambV e.amb)
  dist : ∀ a a2 e e2, ρ a = some e → ρ a2 = some e2 → a ≠ a2 → ∀ g, (V a).ownBlock = some g → (V a2).ownBlock ≠ some g
  bnd : ∀ i, i < L.n → MapF Try.prog 44 w (L.IB i) (bn i) (bndV (β i))
section
variable {L : Lay} {w w2 : World} {V : ByteArray → Value} {ρ : ByteArray → Option Ent} {R : Nat} {β : Nat → Nat × Nat → Bool} {bn : Nat → Nat}
theorem own_blocks {base : Nat} {e : TypeId} {size n : Nat} {v : Value} {xs : List Value} (h : w.ownsRow base e size v n xs) (hb : ∀ g, v.ownBlock = some g → base ≤ g → g < w.heap.size → w2.heap[g]? = w.heap[g]?) : w2.ownsRow base e size v n xs := by
  refine ⟨h.1, ?_⟩
  rcases h.2 with h2 | ⟨g, cap, cur, e1, e2, hh, r⟩
  · exact .inl h2
  · refine .inr ⟨g, cap, cur, e1, e2, (hb g (by rw [e1]; rfl) e2 ?_).trans hh, r⟩
    apply Classical.byContradiction
    intro hn
    rw [Array.getElem?_eq_none (by omega)] at hh
    cases hh
theorem own_is {base : Nat} {e : TypeId} {size n g : Nat} {v : Value} {xs : List Value} (h : w.ownsRow base e size v n xs) (hg : v.ownBlock = some g) : base ≤ g ∧ g < w.heap.size ∧ ∃ cs fr, w.heap[g]? = some (.cells cs e fr) := by
  rcases h.2 with ⟨h2, _⟩ | ⟨g2, cap, cur, e1, e2, hh, r⟩
  · rw [h2] at hg; cases hg
  · rw [e1] at hg
    have : g2 = g := by simpa [Value.ownBlock] using hg
    subst this
    refine ⟨e2, ?_, _, _, hh⟩
    apply Classical.byContradiction
    intro hn
    rw [Array.getElem?_eq_none (by omega)] at hh
    cases hh
theorem St.of_blocks (h : St L w V ρ R β bn) (A : Apt L) (h1 : w2.heap[L.RES]? = w.heap[L.RES]?) (h2 : ∀ i, i < L.n → w2.heap[L.IB i]? = w.heap[L.IB i]?) (h3 : ∀ g, L.B0 ≤ g → g < w.heap.size → Is53 w g → w2.heap[g]? = w.heap[g]?) : St L w2 V ρ R β bn :=
  ⟨h.res.of_block h1, fun a e he => own_blocks (h.amb a e he) fun g hg hb hl => h3 g hb hl (own_is (h.amb a e he) hg).2.2, h.dist, fun i hi => (h.bnd i hi).of_block (h2 i hi)⟩
theorem St.kept (h : St L w V ρ R β bn) (A : Apt L) (k : Kept w w2) : St L w2 V ρ R β bn :=
  h.of_blocks A (k.block _ h.res.lt) (fun i hi => k.block _ (h.bnd i hi).lt) fun g _ hl _ => k.block g hl
theorem not53 {es : Array MapEntry} {c : Nat} {b : Nat} (h : w.heap[b]? = some (.map es c)) : ¬ Is53 w b := by
  rintro ⟨cs, fr, q⟩
  rw [h] at q
  cases q
/-- an alias laid into the table -/
theorem St.lay (h : St L w V ρ R β bn) (A : Apt L) {a : ByteArray} {t j : Nat} (ha : ρ a = none) {o : Obj} (hm : MapF Try.prog 9 (setBlock w L.RES o) L.RES (if (resV V ρ (.string a)).isSome = true then R else R + 1) (mapf.put (resV V ρ) (.string a) (resE (.slice none 0 0) t j))) :
    St L (setBlock w L.RES o) (upd V a (.slice none 0 0)) (upd ρ a (some ⟨t, j, []⟩)) (R + 1) β bn := by
  have hn : (resV V ρ (.string a)).isSome = false := by simp [resV, ha]
  rw [hn, if_neg (by simp), show resE (.slice none 0 0) t j = resE (.slice none 0 0) (⟨t, j, []⟩ : Ent).src (⟨t, j, []⟩ : Ent).j from rfl, resV_put] at hm
  refine ⟨hm, fun x e he => ?_, fun x y e e2 he he2 hne g hg => ?_, fun i hi => (h.bnd i hi).of_block (sb_other w _ o (fun c => A.res.2 i hi c.symm))⟩
  · by_cases c : x = a
    · subst c
      rw [upd_same] at he ⊢
      cases he
      exact ⟨rfl, .inl ⟨rfl, rfl⟩⟩
    · rw [upd_ne _ _ c] at he ⊢
      refine own_blocks (h.amb x e he) fun g hg hb _ => sb_other w _ o ?_
      have := A.res.1
      omega
  · by_cases c : x = a
    · subst c
      rw [upd_same] at hg
      cases hg
    · by_cases c2 : y = a
      · subst c2
        rw [upd_same]
        simp [Value.ownBlock]
      · rw [upd_ne _ _ c] at he hg
        rw [upd_ne _ _ c2] at he2 ⊢
        exact h.dist x y e e2 he he2 hne g hg
/-- a binding laid into file s's table -/
theorem St.bind (h : St L w V ρ R β bn) (A : Apt L) {s t j : Nat} (hs : s < L.n) (hf : β s (t, j) = false) {o : Obj}
    (hm : MapF Try.prog 44 (setBlock w (L.IB s) o) (L.IB s) (if (bndV (β s) (refK t j)).isSome = true then bn s else bn s + 1) (mapf.put (bndV (β s)) (refK t j) (impV t j))) :
    St L (setBlock w (L.IB s) o) V ρ R (upd β s (upd (β s) (t, j) true)) (upd bn s (bn s + 1)) := by
  have hn : (bndV (β s) (refK t j)).isSome = false := by rw [bndV_ref, hf]; rfl
  rw [hn, if_neg (by simp), bndV_put] at hm
  refine ⟨h.res.of_block (sb_other w _ o (A.res.2 s hs)), fun x e he => ?_, h.dist, fun i hi => ?_⟩
  · refine own_blocks (h.amb x e he) fun g hg hb _ => sb_other w _ o ?_
    have := (A.ib s hs).1
    omega
  · by_cases c : i = s
    · subst c
      rw [upd_same, upd_same]
      exact hm
    · rw [upd_ne _ _ c, upd_ne _ _ c]
      exact (h.bnd i hi).of_block (sb_other w _ o (fun q => c ((A.ib i hi).2 s hs q)))
/-- an ambiguous other pushed: the list is grown (in w2), then the entry is laid anew -/
theorem St.push (h : St L w V ρ R β bn) (A : Apt L) {a : ByteArray} {e : Ent} {t j : Nat} (ha : ρ a = some e) {v2 : Value} (ho : w2.ownsRow L.B0 53 5 v2 (e.amb.length + 1) (ambV e.amb ++ imp t j))
    (hb : ∀ g, g < w.heap.size → some g ≠ (V a).ownBlock → w2.heap[g]? = w.heap[g]?) (hv : v2.ownBlock = (V a).ownBlock ∨ ∃ g, v2.ownBlock = some g ∧ w.heap.size ≤ g) {o : Obj}
    (hm : MapF Try.prog 9 (setBlock w2 L.RES o) L.RES (if (resV V ρ (.string a)).isSome = true then R else R + 1) (mapf.put (resV V ρ) (.string a) (resE v2 e.src e.j))) :
    St L (setBlock w2 L.RES o) (upd V a v2) (upd ρ a (some ⟨e.src, e.j, e.amb ++ [(t, j)]⟩)) R β bn := by
  have hn : (resV V ρ (.string a)).isSome = true := by simp [resV, ha]
  rw [hn, if_pos rfl, show resE v2 e.src e.j = resE v2 (⟨e.src, e.j, e.amb ++ [(t, j)]⟩ : Ent).src (⟨e.src, e.j, e.amb ++ [(t, j)]⟩ : Ent).j from rfl, resV_put] at hm
  have hsep : ∀ x y, x ≠ a → ρ x = some y → ∀ g, (V x).ownBlock = some g → v2.ownBlock ≠ some g := fun x y hx hy g hg => by
    rcases hv with c | ⟨g2, c, hg2⟩
    · rw [c]
      exact h.dist x a y e hy ha hx g hg
    · rw [c]
      intro q
      injection q with q
      have := (own_is (h.amb x y hy) hg).2.1
      omega
  refine ⟨hm, fun x y hy => ?_, fun x y e1 e2 he he2 hne g hg => ?_, fun i hi => ?_⟩
  · by_cases c : x = a
    · subst c
      rw [upd_same] at hy ⊢
      cases hy
      refine own_blocks ?_ fun g hg hb _ => sb_other w2 _ o (by have := A.res.1; omega)
      rw [← ambV_snoc, List.length_append]
      exact ho
    · rw [upd_ne _ _ c] at hy ⊢
      refine own_blocks (h.amb x y hy) fun g hg hb2 hl => (sb_other w2 _ o (by have := A.res.1; omega)).trans (hb g hl ?_)
      intro q
      exact h.dist x a y e hy ha c g hg q.symm
  · by_cases c : x = a
    · subst c
      have c2 : y ≠ x := fun q => hne q.symm
      rw [upd_same] at hg
      rw [upd_ne _ _ c2] at he2 ⊢
      intro q
      exact hsep y e2 c2 he2 g q hg
    · rw [upd_ne _ _ c] at he hg
      by_cases c2 : y = a
      · subst c2
        rw [upd_same]
        exact hsep x e1 c he g hg
      · rw [upd_ne _ _ c2] at he2 ⊢
        exact h.dist x y e1 e2 he he2 hne g hg
  · have hi2 := (A.ib i hi).1
    refine (h.bnd i hi).of_block ((sb_other w2 _ o (fun c => A.res.2 i hi c.symm)).trans (hb _ (h.bnd i hi).lt ?_))
    intro q
    have := (own_is (h.amb a e ha) q.symm).1
    omega
theorem St.look (h : St L w V ρ R β bn) (a : ByteArray) : resV V ρ (.string a) = (ρ a).map fun e => resE (V a) e.src e.j := rfl
end

/-! ### the stack -/
theorem info23 : ∃ i z, Try.prog.info? 23 = some i ∧ i.zero = some z ∧ i.size = 1 ∧ i.bytes = 4 ∧ z.cells.size = 1 := by
  have h : (Try.prog.info? 23).bind (fun i => i.zero.map fun z => (i.size, i.bytes, z.cells.size)) = some (1, 4, 1) := by kernel_rfl
  obtain ⟨i, h1, h2⟩ := Option.bind_eq_some_iff.1 h
  obtain ⟨z, h3, h4⟩ := Option.map_eq_some_iff.1 h2
  simp only [Prod.mk.injEq] at h4
  exact ⟨i, z, h1, h3, h4.1, h4.2.1, h4.2.2⟩
theorem own_prefix {w : World} {base g n m cap : Nat} {xs news : List Value} (h : w.ownsRow base 23 1 (.slice (some ⟨g, 0, none⟩) (n + m) cap) (n + m) (xs ++ news)) (hl : xs.length = n) : w.ownsRow base 23 1 (.slice (some ⟨g, 0, none⟩) n cap) n xs := by
  refine ⟨by omega, ?_⟩
  rcases h.2 with ⟨c, _⟩ | ⟨g2, cap2, cur, e1, e2, hh, r1, r2, r3, r4⟩
  · cases c
  · simp only [Value.slice.injEq, Option.some.injEq, Addr.mk.injEq, and_true, true_and] at e1
    obtain ⟨rfl, rfl⟩ := e1
    refine .inr ⟨g, cap, cur, rfl, e2, hh, by omega, r2, r3, ?_⟩
    have := congrArg (List.take (n * 1)) r4
    rw [List.take_take, show min (n * 1) ((n + m) * 1) = n * 1 by omega] at this
    rw [this, show n * 1 = xs.length by omega, List.take_left]
/-- append onto the stack: the old slice is kept -/
theorem append_stack (w : World) (ty : TypeId) (base : Nat) (v : Value) (n : Nat) (xs : List Value) (hown : w.ownsRow base 23 1 v n xs) (hb : base ≤ w.heap.size) (a : Addr) (c : Nat) (x : Value) (hx : w.cell? a = some x) (h1 : x.oneCell' = true) (hn : n ≤ 1000000) :
    ∃ v' w', (Builtin.append_ #[87, 87] ty #[v, .slice (some a) 1 c]).run Try.prog w = .ok v' w' ∧ w'.ownsRow base 23 1 v' (n + 1) (xs ++ [x]) ∧ w'.ownsRow base 23 1 v n xs ∧ w.grownBy w' v.ownBlock ∧ (v'.ownBlock = v.ownBlock ∨ ∃ g, v'.ownBlock = some g ∧ w.heap.size ≤ g) ∧ ∃ ad cap, v' = .slice ad (n + 1) cap := by
  obtain ⟨i, z, hi, hz, hs, hby, hzs⟩ := info23
  have hnews : ∀ j u, [x][j]? = some u → w.cell? (a.add j) = some u := fun j u hj => by
    rcases j with _ | j
    · simp at hj
      subst hj
      simpa [Addr.add] using hx
    · simp at hj
  have h1c : ∀ u ∈ [x], u.oneCell' = true := fun u hu => by rw [List.mem_singleton.1 hu]; exact h1
  have form : ∀ {W : World} {v' : Value} {b : Nat}, W.ownsRow b 23 1 v' (n + 1) (xs ++ [x]) → ∃ ad cap, v' = .slice ad (n + 1) cap := fun h => by
    rcases h.2 with ⟨_, c⟩ | ⟨g, cap, cur, e1, _⟩
    · omega
    · exact ⟨_, _, e1⟩
  have newb : ∀ {W : World} {v' : Value} {b : Nat}, W.ownsRow b 23 1 v' (n + 1) (xs ++ [x]) → ∃ g, v'.ownBlock = some g ∧ b ≤ g := fun h => by
    rcases h.2 with ⟨_, c⟩ | ⟨g, cap, cur, e1, e2, _⟩
    · omega
    · exact ⟨g, by rw [e1]; rfl, e2⟩
  rcases hown.2 with ⟨e1, e2⟩ | ⟨g, cap, cur, e1, e2, hh, r1, r2, r3, r4⟩
  · subst e1 e2
    obtain rfl : xs = [] := List.eq_nil_of_length_eq_zero (by simpa using hown.1)
    obtain ⟨v', w', q1, q2, q3, _⟩ := run_append_own (P := Try.prog) w w.heap.size 87 ty 23 i z 1 4 Try.underlying87 hi hz hs hby hzs (by omega) (.slice none 0 0) 0 [] (World.ownsRow_nil w _ 23 1) a 1 c [x] rfl hnews h1c (by unfold maxLen; omega) (by omega) (Nat.le_refl _)
    exact ⟨v', w', q1, own_mono q2 hb, World.ownsRow_nil w' _ 23 1, q3, .inr (newb q2), form q2⟩
  · subst e1
    by_cases hr : n + 1 ≤ cap
    · obtain ⟨w', q1, q2, q3⟩ := run_append_fits (P := Try.prog) w base 87 ty 23 i 1 Try.underlying87 hi hs g n cap xs hown a 1 c [x] rfl hnews h1c hr
      exact ⟨_, w', q1, q2, own_prefix q2 (by have := hown.1; omega), q3, .inl rfl, form q2⟩
    · obtain ⟨v', w', q1, q2, q3⟩ := run_append_arg_grows (P := Try.prog) w 87 ty 23 i z 1 4 Try.underlying87 hi hz hs hby hzs (by omega) ⟨g, 0, none⟩ n cap xs hown.1 (fun j u hj => hown.cells (g := g) rfl j u hj) a 1 c [x] rfl hnews (by omega) (by unfold maxLen; omega) (by omega)
      refine ⟨v', w', q1, own_mono q2 hb, own_blocks hown (fun k hk _ hl => q3.block k hl (by simp)), q3.but _, .inr (newb q2), form q2⟩
/-- .. at the operation -/
theorem wpList_append_stack (w : World) {ops : Array Oper} {rest : List Oper} {o : Oper} {act : Act} {Q : Exit → Act → World → Prop} (hg : o.guard = none) (s y : Operand) (hop : o.op = Op.call { callee := Callee.builtin Builtin.append, args := #[s, y], argTypes := #[87, 87] })
    (base : Nat) (v : Value) (n : Nat) (xs : List Value) (hs : act.eval s = v) (hown : w.ownsRow base 23 1 v n xs) (hb : base ≤ w.heap.size) (a : Addr) (c : Nat) (x : Value) (hy : act.eval y = .slice (some a) 1 c) (hx : w.cell? a = some x) (h1 : x.oneCell' = true) (hn : n ≤ 1000000)
    (hK : ∀ ad cap w', w'.ownsRow base 23 1 (.slice ad (n + 1) cap) (n + 1) (xs ++ [x]) → w'.ownsRow base 23 1 v n xs → w.grownBy w' v.ownBlock → ((Value.slice ad (n + 1) cap).ownBlock = v.ownBlock ∨ ∃ g, (Value.slice ad (n + 1) cap).ownBlock = some g ∧ w.heap.size ≤ g) → wpList Try.prog ops Q rest (act.put o.dst (.slice ad (n + 1) cap)) w') :
    wpList Try.prog ops Q (o :: rest) act w := by
  refine wpList_plain hg fun K hK' => ?_
  obtain ⟨v', w', hrun, r1, r2, r3, r4, ad, cap, rfl⟩ := append_stack w o.type base v n xs hown hb a c x hx h1 hn
  unfold Oper.wp
  simp [execOp, hop, resolve, invoke, builtin, hs, hy, hrun, Result.andThen]
  exact hK' _ _ (hK ad cap w' r1 r2 r3 r4)
end Go.Proofs.Ytknmcbhcbomjmaa.xs
