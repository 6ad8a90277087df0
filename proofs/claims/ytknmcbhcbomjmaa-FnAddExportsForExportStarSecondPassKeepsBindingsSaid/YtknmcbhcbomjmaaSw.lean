/-
  The round that turns the table, over this seat's program: an alias and its binding laid; an ambiguous other pushed.
  Conditions: none.
-/
import Derived.Test.YtknmcbhcbomjmaaSv
namespace Go.Proofs.Ytknmcbhcbomjmaa.xs
open Go.ChangeShapes Go.WideShapes Go.ChangeAt Go.RowKit
open kit mapv
open Go.Maps (Keyed)
open Go.ChangeMaps (setBlock)

section
variable {L : Lay} {s0 : Nat} {W0 W W2 : World} {w : World} {p : List Nat} {s t r : Nat} {stk : Value} {ρ0 : ByteArray → Option Ent} {x : ByteArray} {c cnt2 : Nat} {V V0 : ByteArray → Value} {ρ ρw : ByteArray → Option Ent} {R R0 : Nat} {β β0 : Nat → Nat × Nat → Bool} {bn bn0 : Nat → Nat}
theorem nb_apart (A : Apt L) (ht : t < L.n) (hs : s < L.n) : L.NB t ≠ L.RES ∧ L.NB t ≠ L.IB s := by
  obtain ⟨_, h1, h2⟩ := A.rd (L.NB t) (.inr (.inr ⟨t, ht, .inr (.inr (.inr rfl))⟩))
  exact ⟨h1, h2 s hs⟩
theorem Rnd.insert (A : Apt L) (H : Pre L s0 w p s stk V0 ρw R0 β0 bn0) (h : Rnd L s0 W0 (p ++ [s]) t r ρ0 x c cnt2 V ρ R β bn W) (htn : t < L.n) (hρ : ρ x = none) (hnx : ∀ y ∈ p ++ [s], ¬ Exs L y x) (hxd : x ≠ dflt) (ht : InN L s0 t) {o : Obj}
    (hm : mapf.MapF Try.prog 9 (setBlock W L.RES o) L.RES (if (resV V ρ (.string x)).isSome = true then R else R + 1) (mapf.put (resV V ρ) (.string x) (resE (.slice none 0 0) t c))) :
    ∃ ob, (Instr.mapUpdate 56 (.map (some (L.IB s))) (refK t c) (impV t c)).run Try.prog (setBlock W L.RES o).drew = .ok () (setBlock (setBlock W L.RES o).drew (L.IB s) ob) ∧ CR L s0 W0 (p ++ [s]) t r ρ0 cnt2 (setBlock (setBlock W L.RES o).drew (L.IB s) ob) := by
  have s1 := h.st.lay A hρ hm
  have s2 : St L (setBlock W L.RES o).drew _ _ _ β bn := s1.of_blocks A rfl (fun _ _ => rfl) (fun _ _ _ _ => rfl)
  have hn := A.top
  have hc := A.pl t x c htn h.at_
  obtain ⟨kl, hkl⟩ := key44 t c (by omega) (by omega)
  have hf := h.jv.fresh H.inj hρ h.at_ s
  obtain ⟨ob, hrun, hm2⟩ := (s2.bnd s H.sn).store K44 Try.underlying56 hkl (impV t c)
  have hs0 : L.NE s0 x = none := by
    have := hnx s0 H.has
    unfold Exs at this
    simpa using this
  have s3 := s2.bind A H.sn hf hm2
  have hj := h.jv.insert H.inj hρ h.at_ ht H.from_ H.sn hxd hs0
  obtain ⟨a1, a2⟩ := nb_apart A htn H.sn
  have hres := A.res.1
  have hib := (A.ib s H.sn).1
  have hrb := h.rb.1
  refine ⟨ob, hrun, h.turn s3 hj (fun y hy => upd_ne _ _ hy) ?_ ⟨h.tn.os, h.tn.tape, h.tn.output, ?_, fun k hk h1 h2 h3 h4 => ?_⟩ ?_ ?_⟩
  · rw [hρ, upd_same]
    exact Pt.new ⟨hxd, h.ex, hnx⟩ _ _
  · have e := h.tn.size
    rw [sb_size]
    show _ ≤ (setBlock W L.RES o).heap.size
    rw [sb_size]
    exact e
  · refine (sb_other _ _ ob (h2 s H.sn)).trans (Eq.trans ?_ (h.tn.block k hk h1 h2 h3 h4))
    exact sb_other W _ o h1
  · exact (sb_other _ _ ob a2).trans (sb_other W _ o a1)
  · exact (sb_other _ _ ob (by omega)).trans (sb_other W _ o (by omega))
theorem Rnd.push (A : Apt L) (h : Rnd L s0 W0 (p ++ [s]) t r ρ0 x c cnt2 V ρ R β bn W) (htn : t < L.n) (hs : s < L.n) {e : Ent} (hρ : ρ x = some e) (hne : e.src ≠ t) (ht : InN L s0 t) {kl : Lit} (hkl : keyOf Try.prog 9 (.string x) = some kl)
    (g : Turn W W2 (fun k => some k = (V x).ownBlock)) {v2 : Value} (ho : W2.ownsRow L.B0 53 5 v2 (e.amb.length + 1) (ambV e.amb ++ imp t c)) (hv : v2.ownBlock = (V x).ownBlock ∨ ∃ g, v2.ownBlock = some g ∧ W.heap.size ≤ g) :
    ∃ ob, (Instr.mapUpdate 32 (.map (some L.RES)) (.string x) (resE v2 e.src e.j)).run Try.prog W2 = .ok () (setBlock W2 L.RES ob) ∧ CR L s0 W0 (p ++ [s]) t r ρ0 cnt2 (setBlock W2 L.RES ob) := by
  have how := h.st.amb x e hρ
  have far : ∀ k, k < W.heap.size → k < L.B0 → W2.heap[k]? = W.heap[k]? := fun k hk hB => g.block k hk fun q => by
    have := (own_is how q.symm).1
    omega
  have hres := A.res.1
  have hrb := h.rb.1
  obtain ⟨a1, a2⟩ := nb_apart A htn hs
  have m2 := h.st.res.of_block (far _ h.st.res.lt hres)
  obtain ⟨ob, hrun, hm⟩ := m2.store K9 Try.underlying32 hkl (resE v2 e.src e.j)
  have s2 := h.st.push A hρ ho (fun k hk hne => g.block k hk hne) hv hm
  obtain ⟨Lf, cnt, Wo, _, _, hmr⟩ := h.old
  have hr3 : r < W.heap.size := hmr.lt
  have hnb : L.NB t < W.heap.size := hmr.owns.lt
  refine ⟨ob, hrun, h.turn s2 (h.jv.push hρ h.at_ ht hne) (fun y hy => upd_ne _ _ hy) ?_ ⟨g.os.trans h.tn.os, g.tape.trans h.tn.tape, g.output.trans h.tn.output, ?_, fun k hk h1 h2 h3 h4 => ?_⟩ ?_ ?_⟩
  · rw [hρ, upd_same]
    exact Pt.push _ _ _
  · rw [sb_size]
    exact Nat.le_trans h.tn.size g.size
  · have e1 := h.tn.block k hk h1 h2 h3 h4
    refine (sb_other _ _ ob h1).trans (Eq.trans (g.block k (Nat.lt_of_lt_of_le hk h.tn.size) fun q => ?_) e1)
    obtain ⟨q1, _, cs, fr, q3⟩ := own_is how q.symm
    exact h4 q1 ⟨cs, fr, e1 ▸ q3⟩
  · exact (sb_other _ _ ob a1).trans (far _ hnb (A.rd (L.NB t) (.inr (.inr ⟨t, htn, .inr (.inr (.inr rfl))⟩))).1)
  · refine (sb_other _ _ ob (by omega)).trans (g.block r hr3 fun q => ?_)
    exact iter53 hmr (own_is how q.symm).2.2
end

/-! ### the list of others grown -/
theorem info53 : ∃ i z, Try.prog.info? 53 = some i ∧ i.zero = some z ∧ i.size = 5 ∧ i.bytes = 40 ∧ z.cells.size = 5 := by
  have h : (Try.prog.info? 53).bind (fun i => i.zero.map fun z => (i.size, i.bytes, z.cells.size)) = some (5, 40, 5) := by kernel_rfl
  obtain ⟨i, h1, h2⟩ := Option.bind_eq_some_iff.1 h
  obtain ⟨z, h3, h4⟩ := Option.map_eq_some_iff.1 h2
  simp only [Prod.mk.injEq] at h4
  exact ⟨i, z, h1, h3, h4.1, h4.2.1, h4.2.2⟩
theorem append_amb (w : World) (ty : TypeId) (base : Nat) (v : Value) (n : Nat) (xs : List Value) (hown : w.ownsRow base 53 5 v n xs) (hb : base ≤ w.heap.size) (a : Addr) (c : Nat) (news : List Value) (hl : news.length = 5) (hx : ∀ j u, news[j]? = some u → w.cell? (a.add j) = some u) (h1 : ∀ u ∈ news, u.oneCell' = true) (hn : n ≤ 1000000) :
    ∃ g cap w', (Builtin.append_ #[42, 42] ty #[v, .slice (some a) 1 c]).run Try.prog w = .ok (.slice (some ⟨g, 0, none⟩) (n + 1) cap) w' ∧ w'.ownsRow base 53 5 (.slice (some ⟨g, 0, none⟩) (n + 1) cap) (n + 1) (xs ++ news) ∧ w.grownBy w' v.ownBlock ∧ (v.ownBlock = some g ∨ w.heap.size ≤ g) := by
  obtain ⟨i, z, hi, hz, hs, hby, hzs⟩ := info53
  have form : ∀ {W : World} {v' : Value} {b : Nat}, W.ownsRow b 53 5 v' (n + 1) (xs ++ news) → ∃ g cap, v' = .slice (some ⟨g, 0, none⟩) (n + 1) cap ∧ b ≤ g := fun h => by
    rcases h.2 with ⟨_, c⟩ | ⟨g, cap, cur, e1, e2, _⟩
    · omega
    · exact ⟨g, cap, e1, e2⟩
  rcases hown.2 with ⟨e1, e2⟩ | ⟨g, cap, cur, e1, e2, hh, r1, r2, r3, r4⟩
  · subst e1 e2
    obtain rfl : xs = [] := List.eq_nil_of_length_eq_zero (by simpa using hown.1)
    obtain ⟨v', w', q1, q2, q3, _⟩ := run_append_own (P := Try.prog) w w.heap.size 42 ty 53 i z 5 40 Try.underlying42 hi hz hs hby hzs (by omega) (.slice none 0 0) 0 [] (World.ownsRow_nil w _ 53 5) a 1 c news (by omega) hx h1 (by unfold maxLen; omega) (by omega) (Nat.le_refl _)
    obtain ⟨g, cap, rfl, hg⟩ := form q2
    exact ⟨g, cap, w', q1, own_mono q2 hb, q3, .inr hg⟩
  · subst e1
    by_cases hr : n + 1 ≤ cap
    · obtain ⟨w', q1, q2, q3⟩ := run_append_fits (P := Try.prog) w base 42 ty 53 i 5 Try.underlying42 hi hs g n cap xs hown a 1 c news (by omega) hx h1 hr
      exact ⟨g, cap, w', q1, q2, q3, .inl rfl⟩
    · obtain ⟨v', w', q1, q2, q3⟩ := run_append_arg_grows (P := Try.prog) w 42 ty 53 i z 5 40 Try.underlying42 hi hz hs hby hzs (by omega) ⟨g, 0, none⟩ n cap xs hown.1 (fun j u hj => hown.cells (g := g) rfl j u hj) a 1 c news (by omega) hx (by omega) (by unfold maxLen; omega) (by omega)
      obtain ⟨g2, cap2, rfl, hg⟩ := form q2
      exact ⟨g2, cap2, w', q1, own_mono q2 hb, q3.but _, .inr hg⟩
theorem wpList_append_amb (w : World) {ops : Array Oper} {rest : List Oper} {o : Oper} {act : Act} {Q : Exit → Act → World → Prop} (hg : o.guard = none) (s y : Operand) (hop : o.op = Op.call { callee := Callee.builtin Builtin.append, args := #[s, y], argTypes := #[42, 42] })
    (base : Nat) (v : Value) (n : Nat) (xs : List Value) (hs : act.eval s = v) (hown : w.ownsRow base 53 5 v n xs) (hb : base ≤ w.heap.size) (a : Addr) (c : Nat) (news : List Value) (hy : act.eval y = .slice (some a) 1 c) (hl : news.length = 5) (hx : ∀ j u, news[j]? = some u → w.cell? (a.add j) = some u) (h1 : ∀ u ∈ news, u.oneCell' = true) (hn : n ≤ 1000000)
    (hK : ∀ g cap w', w'.ownsRow base 53 5 (.slice (some ⟨g, 0, none⟩) (n + 1) cap) (n + 1) (xs ++ news) → w.grownBy w' v.ownBlock → (v.ownBlock = some g ∨ w.heap.size ≤ g) → wpList Try.prog ops Q rest (act.put o.dst (.slice (some ⟨g, 0, none⟩) (n + 1) cap)) w') :
    wpList Try.prog ops Q (o :: rest) act w := by
  refine wpList_plain hg fun K hK' => ?_
  obtain ⟨g, cap, w', hrun, r1, r2, r3⟩ := append_amb w o.type base v n xs hown hb a c news hl hx h1 hn
  unfold Oper.wp
  simp [execOp, hop, resolve, invoke, builtin, hs, hy, hrun, Result.andThen]
  exact hK' _ _ (hK g cap w' r1 r2 r3)
theorem amb_form {w : World} {base n : Nat} {v : Value} {xs : List Value} (h : w.ownsRow base 53 5 v n xs) : ∃ ad cap, v = .slice ad n cap := by
  rcases h.2 with ⟨e1, e2⟩ | ⟨g, cap, cur, e1, _⟩
  · exact ⟨none, 0, by rw [e1, e2]⟩
  · exact ⟨_, _, e1⟩

theorem blk_ne {P : Program} {k t : TypeId} {w : World} {b b2 n : Nat} {cs : List Value} {f : Value → Option Value} (h : Blk w b t cs) (m : mapf.MapF P k w b2 n f) : b ≠ b2 := by
  intro e
  subst e
  obtain ⟨es, c, q, _⟩ := m
  rw [Blk, q] at h
  cases h
theorem newsL (w : World) (T : TypeId) (cs : List Value) : ∀ j u, cs[j]? = some u → (w.alloc (.cells cs.toArray T)).cell? ((⟨w.heap.size, 0, none⟩ : Addr).add j) = some u := by
  intro j u h
  have hb := (Blk.new w T cs).cell j
  rw [h] at hb
  have e : (⟨w.heap.size, 0, none⟩ : Addr).add j = ⟨w.heap.size, j, none⟩ := by
    unfold Addr.add
    by_cases hj : j = 0 <;> simp [hj]
  rw [e]
  exact hb
theorem turn_grown {w w2 : World} {row : Option Nat} (g : w.grownBy w2 row) : Turn w w2 (fun k => some k = row) := ⟨g.os, g.tape, g.output, g.size, fun k hk hn => g.block k hk hn⟩
theorem imp_one (t c : Nat) : ∀ u ∈ imp t c, u.oneCell' = true := by simp [imp, Value.oneCell']
end Go.Proofs.Ytknmcbhcbomjmaa.xs
