/-
  What a call of addExportsForExportStar wants and leaves; what its loops hold, over this seat's program.
  Conditions: none.
-/
import Derived.Test.YtknmcbhcbomjmaaSy
namespace Go.Proofs.Ytknmcbhcbomjmaa.xs
open Go.ChangeShapes Go.WideShapes Go.ChangeAt Go.RowKit
open kit mapv
open Go.Maps (Keyed)
open Go.ChangeMaps (setBlock)

def dflt : ByteArray := ⟨#[100, 101, 102, 97, 117, 108, 116]⟩
def dg (L : Lay) (i : Nat) : Nat := (im L i).length
def InN (L : Lay) (s0 v : Nat) : Prop := In (im L) (cjs L) s0 v
def stkV (p : List Nat) : List Value := p.map fun (x : Nat) => Value.int .u32 (x : Int)
/-- what a call wants -/
structure Pre (L : Lay) (s0 : Nat) (w : World) (p : List Nat) (s : Nat) (stk : Value) (V : ByteArray → Value) (ρ : ByteArray → Option Ent) (R : Nat) (β : Nat → Nat × Nat → Bool) (bn : Nat → Nat) : Prop where
  mem : Mem L w
  st : St L w V ρ R β bn
  jv : Jv L.n s0 (InN L s0) L.NE dflt ρ β R bn
  own : w.ownsRow L.B0 23 1 stk p.length (stkV p)
  base : L.B0 ≤ w.heap.size
  nd : p.Nodup
  lt : ∀ x ∈ p, x < L.n
  sn : s < L.n
  from_ : s = s0 ∨ InN L s0 s
  has : s0 ∈ p ++ [s]
  inj : Inj L.NE
  bud1 : bud (dg L) L.n p ≤ 100000
  bud2 : ∀ a e, ρ a = some e → e.amb.length + bud (dg L) L.n p ≤ 100000
/-- the aliases that a call comes to -/
def Sc (L : Lay) (p : List Nat) (s : Nat) (a : ByteArray) : Prop := s ∉ p ∧ a ≠ dflt ∧ Rt (im L) (cjs L) (Exs L) (p ++ [s]) s a
/-- what a call leaves -/
def Post (L : Lay) (s0 : Nat) (w : World) (p : List Nat) (s : Nat) (stk : Value) (ρ : ByteArray → Option Ent) (e : Ending) (w' : World) : Prop :=
  e = .returned (.tuple #[]) ∧ ∃ V2 ρ2 R2 β2 bn2, St L w' V2 ρ2 R2 β2 bn2 ∧ Jv L.n s0 (InN L s0) L.NE dflt ρ2 β2 R2 bn2 ∧ Stp (Sc L p s) (bud (dg L) L.n p) ρ ρ2 ∧ Tn L stk.ownBlock w w' ∧ w'.ownsRow L.B0 23 1 stk p.length (stkV p)
theorem post_seen {L : Lay} {s0 : Nat} {w : World} {p : List Nat} {s : Nat} {stk : Value} {V : ByteArray → Value} {ρ : ByteArray → Option Ent} {R : Nat} {β : Nat → Nat × Nat → Bool} {bn : Nat → Nat} (h : Pre L s0 w p s stk V ρ R β bn) (hs : s ∈ p) : Post L s0 w p s stk ρ (.returned (.tuple #[])) w :=
  ⟨rfl, V, ρ, R, β, bn, h.st, h.jv, (Stp.refl ρ).mono (fun a => ⟨fun c => c.elim, fun c => c.1 hs⟩) (Nat.zero_le _), Tn.refl _ _ _, h.own⟩
theorem stk_form {L : Lay} {s0 : Nat} {w : World} {p : List Nat} {s : Nat} {stk : Value} {V : ByteArray → Value} {ρ : ByteArray → Option Ent} {R : Nat} {β : Nat → Nat × Nat → Bool} {bn : Nat → Nat} (h : Pre L s0 w p s stk V ρ R β bn) : ∃ ad cap, stk = .slice ad p.length cap := by
  rcases h.own.2 with ⟨e1, e2⟩ | ⟨g, cap, cur, e1, _⟩
  · exact ⟨none, 0, by rw [e1, e2]⟩
  · exact ⟨_, _, e1⟩
def A27 (p : List Nat) (s : Nat) (t27 : Value) : Prop := ∃ k : Nat, k ≤ p.length ∧ t27 = .int .i64 (k : Int) ∧ ∀ i, i < k → p.getD i 0 ≠ s
theorem mem_of_getD {p : List Nat} {s k : Nat} (hk : k < p.length) (h : p.getD k 0 = s) : s ∈ p := by
  rw [List.getD_eq_getElem?_getD, List.getElem?_eq_getElem hk] at h
  exact h ▸ List.getElem_mem hk
theorem notMem_of_getD {p : List Nat} {s : Nat} (h : ∀ i, i < p.length → p.getD i 0 ≠ s) : s ∉ p := fun hm => by
  obtain ⟨i, hi, e⟩ := List.getElem_of_mem hm
  exact h i hi (by rw [List.getD_eq_getElem?_getD, List.getElem?_eq_getElem hi]; exact e)


theorem stkV_snoc (p : List Nat) (s : Nat) : stkV p ++ [Value.int .u32 (s : Int)] = stkV (p ++ [s]) := by simp [stkV]
section
variable {L : Lay} {w w1 w2 : World} {V : ByteArray → Value} {ρ : ByteArray → Option Ent} {R : Nat} {β : Nat → Nat × Nat → Bool} {bn : Nat → Nat}
theorem St.grown (h : St L w V ρ R β bn) (A : Apt L) {row : Option Nat} (g : w.grownBy w2 row) (hr : ∀ k, row = some k → L.B0 ≤ k ∧ ¬ Is53 w k) : St L w2 V ρ R β bn :=
  h.of_blocks A (g.block _ h.res.lt fun c => by have := (hr _ c.symm).1; have := A.res.1; omega) (fun i hi => g.block _ (h.bnd i hi).lt fun c => by have := (hr _ c.symm).1; have := (A.ib i hi).1; omega)
    fun k _ hl hk => g.block k hl fun c => (hr _ c.symm).2 hk
theorem Mem.grown (h : Mem L w) (A : Apt L) {row : Option Nat} (g : w.grownBy w2 row) (hr : ∀ k, row = some k → L.B0 ≤ k) : Mem L w2 := h.of_blocks fun b hb hl => g.block b hl fun c => by
  have := hr _ c.symm
  have := (A.rd b hb).1
  omega
theorem Tn.of_grown {row : Option Nat} (g : w.grownBy w2 row) : Tn L row w w2 := ⟨g.os, g.tape, g.output, g.size, fun k hk _ _ h3 _ => g.block k hk h3⟩
theorem stk_not53 {base n : Nat} {v : Value} {xs : List Value} (h : w.ownsRow base 23 1 v n xs) : ∀ k, v.ownBlock = some k → base ≤ k ∧ ¬ Is53 w k := fun k hk => by
  obtain ⟨h1, _, cs, fr, h3⟩ := own_is h hk
  refine ⟨h1, ?_⟩
  rintro ⟨cs2, fr2, q⟩
  rw [h3] at q
  injection q with q
  injection q with _ q
  cases q
/-- a stack's row survives what turns no stack -/
theorem own_tn {sb : Option Nat} (A : Apt L) {n : Nat} {v : Value} {xs : List Value} (h : w.ownsRow L.B0 23 1 v n xs) (t : Tn L sb w w2) (hs : ∀ k, v.ownBlock = some k → sb ≠ some k) : w2.ownsRow L.B0 23 1 v n xs := own_blocks h fun g hg hb hl =>
  t.block g hl (by have := A.res.1; omega) (fun i hi => by have := (A.ib i hi).1; omega) (fun c => hs g hg c.symm) fun _ => (stk_not53 h g hg).2
theorem own_cap {base base2 n m g cap cap2 : Nat} {xs ys : List Value} (h : w.ownsRow base 23 1 (.slice (some ⟨g, 0, none⟩) n cap) n xs) (h2 : w.ownsRow base2 23 1 (.slice (some ⟨g, 0, none⟩) m cap2) m ys) : cap = cap2 := by
  rcases h.2 with ⟨c, _⟩ | ⟨g1, c1, cur, e1, _, hh, _, _, r3, _⟩
  · cases c
  rcases h2.2 with ⟨c, _⟩ | ⟨g3, c3, cur3, e3, _, hh3, _, _, s3, _⟩
  · cases c
  simp only [Value.slice.injEq, Option.some.injEq, Addr.mk.injEq, and_true, true_and] at e1 e3
  obtain ⟨rfl, rfl⟩ := e1
  obtain ⟨rfl, rfl⟩ := e3
  rw [hh] at hh3
  injection hh3 with hh3
  injection hh3 with q
  rw [q] at r3
  omega
/-- the caller's stack behind a call that may have written behind its end -/
theorem own_old {p : List Nat} {s cap cap2 : Nat} {ad ad2 : Option Addr} (A : Apt L) (h : w.ownsRow L.B0 23 1 (.slice ad p.length cap) p.length (stkV p)) (h2 : w.ownsRow L.B0 23 1 (.slice ad2 (p.length + 1) cap2) (p.length + 1) (stkV (p ++ [s])))
    (t : Tn L (Value.slice ad2 (p.length + 1) cap2).ownBlock w w2) (g : w2.ownsRow L.B0 23 1 (.slice ad2 (p.length + 1) cap2) (p.length + 1) (stkV (p ++ [s]))) : w2.ownsRow L.B0 23 1 (.slice ad p.length cap) p.length (stkV p) := by
  rcases h.2 with ⟨e1, e2⟩ | ⟨b, c1, cur, e1, _⟩
  · exact ⟨h.1, .inl ⟨e1, e2⟩⟩
  · rcases h2.2 with ⟨_, c⟩ | ⟨b2, c2, cur2, e2, _⟩
    · omega
    · simp only [Value.slice.injEq, true_and] at e1 e2
      obtain ⟨rfl, rfl⟩ := e1
      obtain ⟨rfl, rfl⟩ := e2
      by_cases hb : b = b2
      · subst hb
        have := own_cap h h2
        subst this
        rw [← stkV_snoc] at g
        exact own_prefix g (by simp [stkV])
      · refine own_tn A h t fun k hk => ?_
        have : k = b := by simpa [Value.ownBlock] using hk.symm
        subst this
        simpa [Value.ownBlock] using fun c : b2 = k => hb c.symm
end

/-! ### the loop over the records -/
def Sj (L : Lay) (P : List Nat) (s j : Nat) (a : ByteArray) : Prop := a ≠ dflt ∧ ∃ i t, i < j ∧ L.T s i = some t ∧ cjs L t = false ∧ ((Exs L t a ∧ ∀ x ∈ P, ¬ Exs L x a) ∨ (t ∉ P ∧ Rt (im L) (cjs L) (Exs L) (P ++ [t]) t a))
def Bj (L : Lay) (P : List Nat) (s j : Nat) : Nat := ((List.range j).filterMap (L.T s)).length * (1 + bud (dg L) L.n P)
def Lj (L : Lay) (s0 : Nat) (w : World) (p : List Nat) (s : Nat) (ad : Option Addr) (cap : Nat) (ad2 : Option Addr) (cap2 : Nat) (ρ : ByteArray → Option Ent) (j : Nat) (W : World) : Prop :=
  ∃ V2 ρ2 R2 β2 bn2, St L W V2 ρ2 R2 β2 bn2 ∧ Jv L.n s0 (InN L s0) L.NE dflt ρ2 β2 R2 bn2 ∧ Stp (Sj L (p ++ [s]) s j) (Bj L (p ++ [s]) s j) ρ ρ2 ∧ Tn L (Value.slice ad p.length cap).ownBlock w W ∧
    W.ownsRow L.B0 23 1 (.slice ad2 (p.length + 1) cap2) (p.length + 1) (stkV (p ++ [s])) ∧ W.ownsRow L.B0 23 1 (.slice ad p.length cap) p.length (stkV p) ∧ Mem L W
section
variable {L : Lay} {s0 : Nat} {w W W2 : World} {p : List Nat} {s : Nat} {ad : Option Addr} {cap : Nat} {ad2 : Option Addr} {cap2 : Nat} {V : ByteArray → Value} {ρ : ByteArray → Option Ent} {R : Nat} {β : Nat → Nat × Nat → Bool} {bn : Nat → Nat} {j : Nat}
theorem Lj.start (A : Apt L) (h : Pre L s0 w p s (.slice ad p.length cap) V ρ R β bn) {w0 : World} (k0 : Kept w w0) (g : w0.grownBy W (Value.slice ad p.length cap).ownBlock) (o2 : W.ownsRow L.B0 23 1 (.slice ad2 (p.length + 1) cap2) (p.length + 1) (stkV p ++ [.int .u32 (s : Int)]))
    (o1 : W.ownsRow L.B0 23 1 (.slice ad p.length cap) p.length (stkV p)) : Lj L s0 w p s ad cap ad2 cap2 ρ 0 W := by
  have ho := own_kept h.own k0
  refine ⟨V, ρ, R, β, bn, (h.st.kept A k0).grown A g (stk_not53 ho), h.jv, (Stp.refl ρ).mono (fun a => ⟨fun c => c.elim, fun c => ?_⟩) (Nat.zero_le _), (Tn.of_kept k0 L _).trans (Tn.of_grown g) (fun k hk e => e), by rw [← stkV_snoc]; exact o2, o1, (h.mem.kept k0).grown A g fun k hk => (stk_not53 ho k hk).1⟩
  obtain ⟨_, i, t, hi, _⟩ := c
  omega
theorem Sj_succ_none (P : List Nat) (hT : L.T s j = none ∨ ∃ t, L.T s j = some t ∧ cjs L t = true) (a : ByteArray) : Sj L P s j a ↔ Sj L P s (j + 1) a := by
  constructor
  · rintro ⟨h0, i, t, h1, r⟩
    exact ⟨h0, i, t, by omega, r⟩
  · rintro ⟨h0, i, t, h1, h2, h3, r⟩
    refine ⟨h0, i, t, ?_, h2, h3, r⟩
    apply Classical.byContradiction
    intro c
    obtain rfl : i = j := by omega
    rcases hT with hT | ⟨t2, hT, hc⟩
    · rw [hT] at h2; cases h2
    · rw [hT] at h2
      cases h2
      rw [hc] at h3; cases h3
theorem Bj_mono (P : List Nat) : Bj L P s j ≤ Bj L P s (j + 1) := by
  unfold Bj
  rw [List.range_succ, List.filterMap_append, List.length_append]
  exact Nat.mul_le_mul_right _ (Nat.le_add_right _ _)
theorem Bj_le (P : List Nat) {m : Nat} (h : j ≤ m) : Bj L P s j ≤ Bj L P s m := by
  induction m with
  | zero => obtain rfl : j = 0 := by omega
            exact Nat.le_refl _
  | succ m ih =>
    by_cases c : j = m + 1
    · rw [c]; exact Nat.le_refl _
    · exact Nat.le_trans (ih (by omega)) (Bj_mono P)
theorem Bj_some (P : List Nat) {t : Nat} (hT : L.T s j = some t) : Bj L P s (j + 1) = Bj L P s j + (1 + bud (dg L) L.n P) := by
  unfold Bj
  rw [List.range_succ, List.filterMap_append, List.length_append]
  have : (List.filterMap (L.T s) [j]).length = 1 := by simp [hT]
  rw [this, Nat.add_mul, Nat.one_mul]
/-- a record that leads nowhere -/
theorem Lj.skip (A : Apt L) (h : Lj L s0 w p s ad cap ad2 cap2 ρ j W) (k : Kept W W2) (hT : L.T s j = none ∨ ∃ t, L.T s j = some t ∧ cjs L t = true) : Lj L s0 w p s ad cap ad2 cap2 ρ (j + 1) W2 := by
  obtain ⟨V2, ρ2, R2, β2, bn2, h1, h2, h3, h4, h5, h6, h7⟩ := h
  exact ⟨V2, ρ2, R2, β2, bn2, h1.kept A k, h2, h3.mono (Sj_succ_none _ hT) (Bj_mono _), h4.kept k, own_kept h5 k, own_kept h6 k, h7.kept k⟩
/-- the budget of what comes below -/
theorem bud_below {L : Lay} {p : List Nat} {s : Nat} (h1 : s < L.n) (h2 : s ∉ p) (h3 : p.length < L.n) : Bj L (p ++ [s]) s (L.K s) ≤ bud (dg L) L.n p := bud_step (dg L) h1 h2 h3
end

/-! ### the loop over a file's exports -/
def S1 (L : Lay) (P : List Nat) (t : Nat) (a : ByteArray) : Prop := a ≠ dflt ∧ Exs L t a ∧ ∀ x ∈ P, ¬ Exs L x a
def Pt (S : Prop) (e0 e3 : Option Ent) : Prop :=
  (∀ e, e0 = some e → ∃ e2, e3 = some e2 ∧ e2.src = e.src ∧ e2.j = e.j ∧ e2.amb.length ≤ e.amb.length + 1) ∧ (∀ e2, e3 = some e2 → e0 = none → S ∧ e2.amb.length ≤ 1) ∧ (S → e3.isSome = true)
structure C3 (L : Lay) (s0 : Nat) (W0 : World) (P : List Nat) (t r : Nat) (ρ0 : ByteArray → Option Ent) (Lf : Value → Prop) (cnt : Nat) (V : ByteArray → Value) (ρ : ByteArray → Option Ent) (R : Nat) (β : Nat → Nat × Nat → Bool) (bn : Nat → Nat) (W : World) : Prop where
  rg : MapR Try.prog 9 W (L.NB t) r (L.sz t) (neV t (L.NE t)) Lf cnt
  st : St L W V ρ R β bn
  jv : Jv L.n s0 (InN L s0) L.NE dflt ρ β R bn
  stay : ∀ a, Lf (.string a) → ρ a = ρ0 a
  done : ∀ a, Exs L t a → ¬ Lf (.string a) → Pt (S1 L P t a) (ρ0 a) (ρ a)
  out : ∀ a, ¬ Exs L t a → ρ a = ρ0 a
  tn : Tn L none W0 W
section
variable {L : Lay} {s0 : Nat} {W0 W W2 : World} {P : List Nat} {t r : Nat} {ρ0 : ByteArray → Option Ent} {Lf Lf2 : Value → Prop} {cnt cnt2 : Nat} {V V2 : ByteArray → Value} {ρ ρ2 : ByteArray → Option Ent} {R R2 : Nat} {β β2 : Nat → Nat × Nat → Bool} {bn bn2 : Nat → Nat}
theorem neV_some (t : Nat) (a : ByteArray) : (neV t (L.NE t) (.string a)).isSome = true ↔ Exs L t a := by
  rcases h : L.NE t a with _ | j <;> simp [neV, Exs, h]
theorem C3.begin (hr : MapR Try.prog 9 W (L.NB t) r (L.sz t) (neV t (L.NE t)) (fun key => (neV t (L.NE t) key).isSome = true) cnt) (st : St L W V ρ R β bn) (jv : Jv L.n s0 (InN L s0) L.NE dflt ρ β R bn) (k : Kept W0 W) :
    C3 L s0 W0 P t r ρ (fun key => (neV t (L.NE t) key).isSome = true) cnt V ρ R β bn W :=
  ⟨hr, st, jv, fun _ _ => rfl, fun a h1 h2 => absurd ((neV_some t a).2 h1) h2, fun _ _ => rfl, Tn.of_kept k L none⟩
theorem C3.step (h : C3 L s0 W0 P t r ρ0 Lf cnt V ρ R β bn W) {a : ByteArray} (ha : Lf (.string a)) (hr : MapR Try.prog 9 W2 (L.NB t) r (L.sz t) (neV t (L.NE t)) (fun key => Lf key ∧ key ≠ .string a) cnt2) (st : St L W2 V2 ρ2 R2 β2 bn2)
    (jv : Jv L.n s0 (InN L s0) L.NE dflt ρ2 β2 R2 bn2) (hx : Exs L t a) (off : ∀ x, x ≠ a → ρ2 x = ρ x) (pt : Pt (S1 L P t a) (ρ a) (ρ2 a)) (tn : Tn L none W0 W2) :
    C3 L s0 W0 P t r ρ0 (fun key => Lf key ∧ key ≠ .string a) cnt2 V2 ρ2 R2 β2 bn2 W2 := by
  refine ⟨hr, st, jv, fun x hx2 => ?_, fun x h1 h2 => ?_, fun x h1 => ?_, tn⟩
  · have hne : x ≠ a := fun c => hx2.2 (by rw [c])
    rw [off x hne]
    exact h.stay x hx2.1
  · by_cases c : x = a
    · subst c
      rw [h.stay x ha] at pt
      exact pt
    · rw [off x c]
      refine h.done x h1 fun q => h2 ⟨q, fun e => c ?_⟩
      injection e
  · have hne : x ≠ a := fun c => h1 (by rw [c]; exact hx)
    rw [off x hne]
    exact h.out x h1
theorem C3.fin (h : C3 L s0 W0 P t r ρ0 Lf cnt V ρ R β bn W) (hL : ∀ key, ¬ Lf key) : Stp (S1 L P t) 1 ρ0 ρ := by
  refine ⟨fun a e he => ?_, fun a e2 he hn => ?_, fun a ha => ?_⟩
  · by_cases c : Exs L t a
    · exact (h.done a c (hL _)).1 e he
    · exact ⟨e, by rw [h.out a c]; exact he, rfl, rfl, by omega⟩
  · by_cases c : Exs L t a
    · exact (h.done a c (hL _)).2.1 e2 he hn
    · rw [h.out a c, hn] at he
      cases he
  · exact (h.done a ha.2.1 (hL _)).2.2 ha
theorem Pt.no {S : Prop} (h : ¬ S) (e : Option Ent) : Pt S e e := ⟨fun e2 he => ⟨e2, he, rfl, rfl, by omega⟩, fun e2 h1 h2 => (by rw [h2] at h1; cases h1), fun c => absurd c h⟩
theorem Pt.old {S : Prop} {e : Ent} : Pt S (some e) (some e) := ⟨fun e2 he => ⟨e2, he, rfl, rfl, by omega⟩, fun e2 h1 h2 => (by cases h2), fun _ => rfl⟩
theorem Pt.new {S : Prop} (h : S) (t j : Nat) : Pt S none (some ⟨t, j, []⟩) := ⟨fun e2 he => (by cases he), fun e2 h1 _ => ⟨h, by cases h1; simp⟩, fun _ => rfl⟩
theorem Pt.push {S : Prop} (e : Ent) (t j : Nat) : Pt S (some e) (some ⟨e.src, e.j, e.amb ++ [(t, j)]⟩) := ⟨fun e2 he => (by cases he; exact ⟨_, rfl, rfl, rfl, by simp⟩), fun e2 h1 h2 => (by cases h2), fun _ => rfl⟩
end

/-! ### a record that leads to a file -/
section
variable {L : Lay} {s0 : Nat} {w W W2 W3 : World} {p : List Nat} {s t : Nat} {ad : Option Addr} {cap : Nat} {ad2 : Option Addr} {cap2 : Nat} {V V3 : ByteArray → Value} {ρ ρ2 ρ3 : ByteArray → Option Ent} {R R3 : Nat} {β β3 : Nat → Nat × Nat → Bool} {bn bn3 : Nat → Nat} {j : Nat}
theorem im_mem (hj : j < L.K s) (hT : L.T s j = some t) : t ∈ im L s := List.mem_filterMap.2 ⟨j, List.mem_range.2 hj, hT⟩
theorem in_below (H : s = s0 ∨ InN L s0 s) (hj : j < L.K s) (hT : L.T s j = some t) (hc : cjs L t = false) : InN L s0 t := by
  rcases H with rfl | H
  · exact .one ⟨im_mem hj hT, hc⟩
  · exact .more H ⟨im_mem hj hT, hc⟩
theorem bud_rec (A : Apt L) (H : Pre L s0 w p s (.slice ad p.length cap) V ρ R β bn) (hs : s ∉ p) (hj : j < L.K s) (hT : L.T s j = some t) : Bj L (p ++ [s]) s j + (1 + bud (dg L) L.n (p ++ [s])) ≤ bud (dg L) L.n p := by
  have h1 := bud_below H.sn hs (nodup_lt H.nd H.lt H.sn hs)
  have h2 := Bj_le (L := L) (s := s) (p ++ [s]) (show j + 1 ≤ L.K s by omega)
  rw [Bj_some _ hT] at h2
  omega
theorem pre_below (A : Apt L) (H : Pre L s0 w p s (.slice ad p.length cap) V ρ R β bn) (hs : s ∉ p) (hj : j < L.K s) (hT : L.T s j = some t) (hc : cjs L t = false) (h3 : Stp (Sj L (p ++ [s]) s j) (Bj L (p ++ [s]) s j) ρ ρ2) (f : Stp (S1 L (p ++ [s]) t) 1 ρ2 ρ3)
    (st : St L W3 V3 ρ3 R3 β3 bn3) (jv : Jv L.n s0 (InN L s0) L.NE dflt ρ3 β3 R3 bn3) (mem : Mem L W3) (own : W3.ownsRow L.B0 23 1 (.slice ad2 (p.length + 1) cap2) (p.length + 1) (stkV (p ++ [s]))) (hb : L.B0 ≤ W3.heap.size) :
    Pre L s0 W3 (p ++ [s]) t (.slice ad2 (p ++ [s]).length cap2) V3 ρ3 R3 β3 bn3 := by
  have hl : (p ++ [s]).length = p.length + 1 := by simp
  have hbud := bud_rec A H hs hj hT
  have hp1 := H.bud1
  have hh := h3.trans f
  refine ⟨mem, st, jv, by rw [hl]; exact own, hb, List.nodup_append.2 ⟨H.nd, by simp, fun a ha b hb e => hs (by rw [List.mem_singleton.1 hb] at e; exact e ▸ ha)⟩, fun x hx => ?_, A.low s j t H.sn hj hT, .inr (in_below H.from_ hj hT hc), List.mem_append_left _ H.has, H.inj, by omega, fun a e he => ?_⟩
  · rcases List.mem_append.1 hx with h | h
    · exact H.lt x h
    · rw [List.mem_singleton.1 h]; exact H.sn
  · rcases hρ : ρ a with _ | e0
    · have := (hh.new a e he hρ).2
      omega
    · obtain ⟨e2, q1, _, _, q4⟩ := hh.keep a e0 hρ
      rw [he] at q1
      cases q1
      have := H.bud2 a e0 hρ
      omega
theorem Sj_some (P : List Nat) (hT : L.T s j = some t) (hc : cjs L t = false) (a : ByteArray) : ((Sj L P s j a ∨ S1 L P t a) ∨ Sc L P t a) ↔ Sj L P s (j + 1) a := by
  constructor
  · rintro ((⟨h0, i, t2, h1, r⟩ | ⟨h0, h1, h2⟩) | ⟨h0, h1, h2⟩)
    · exact ⟨h0, i, t2, by omega, r⟩
    · exact ⟨h0, j, t, by omega, hT, hc, .inl ⟨h1, h2⟩⟩
    · exact ⟨h1, j, t, by omega, hT, hc, .inr ⟨h0, h2⟩⟩
  · rintro ⟨h0, i, t2, h1, h2, h3, r⟩
    by_cases c : i = j
    · subst c
      rw [hT] at h2
      cases h2
      rcases r with ⟨r1, r2⟩ | ⟨r1, r2⟩
      · exact .inl (.inr ⟨h0, r1, r2⟩)
      · exact .inr ⟨r1, h0, r2⟩
    · exact .inl (.inl ⟨h0, i, t2, by omega, h2, h3, r⟩)
/-- behind the call below -/
theorem Lj.go (A : Apt L) (h3 : Stp (Sj L (p ++ [s]) s j) (Bj L (p ++ [s]) s j) ρ ρ2) (f : Stp (S1 L (p ++ [s]) t) 1 ρ2 ρ3) (hT : L.T s j = some t) (hc : cjs L t = false) (tn : Tn L (Value.slice ad p.length cap).ownBlock w W3)
    (hb : (Value.slice ad2 (p.length + 1) cap2).ownBlock = (Value.slice ad p.length cap).ownBlock ∨ ∃ g, (Value.slice ad2 (p.length + 1) cap2).ownBlock = some g ∧ w.heap.size ≤ g)
    (o2 : W3.ownsRow L.B0 23 1 (.slice ad2 (p.length + 1) cap2) (p.length + 1) (stkV (p ++ [s]))) (o1 : W3.ownsRow L.B0 23 1 (.slice ad p.length cap) p.length (stkV p)) (mem : Mem L W3) {e : Ending} {W4 : World} (hp : Post L s0 W3 (p ++ [s]) t (.slice ad2 (p ++ [s]).length cap2) ρ3 e W4) :
    Lj L s0 w p s ad cap ad2 cap2 ρ (j + 1) W4 := by
  have hl : (p ++ [s]).length = p.length + 1 := by simp
  obtain ⟨_, V4, ρ4, R4, β4, bn4, h1, h2, h4, h5, h6⟩ := hp
  rw [hl] at h5 h6
  refine ⟨V4, ρ4, R4, β4, bn4, h1, h2, ((h3.trans f).trans h4).mono (Sj_some _ hT hc) ?_, tn.trans h5 (fun k hk c => ?_), h6, own_old A o1 o2 h5 h6, mem.tn A h5 fun k hk => (stk_not53 o2 k hk).1⟩
  · rw [Bj_some _ hT]
    omega
  · rcases hb with hb | ⟨g, hb, hg⟩
    · rw [← hb]; exact c
    · rw [hb] at c
      injection c with c
      omega
/-- the end of the loop over the records -/
theorem Lj.fin (A : Apt L) (H : Pre L s0 w p s (.slice ad p.length cap) V ρ R β bn) (hs : s ∉ p) (h : Lj L s0 w p s ad cap ad2 cap2 ρ (L.K s) W) : Post L s0 w p s (.slice ad p.length cap) ρ (.returned (.tuple #[])) W := by
  obtain ⟨V2, ρ2, R2, β2, bn2, h1, h2, h3, h4, h5, h6, h7⟩ := h
  refine ⟨rfl, V2, ρ2, R2, β2, bn2, h1, h2, h3.mono (fun a => ?_) (bud_below H.sn hs (nodup_lt H.nd H.lt H.sn hs)), h4, h6⟩
  constructor
  · rintro ⟨q0, i, t, q1, q2, q3, q4⟩
    refine ⟨hs, q0, ?_⟩
    have he : Edge (im L) (cjs L) s t := ⟨im_mem q1 q2, q3⟩
    rcases q4 with ⟨q4, q5⟩ | ⟨q4, q5⟩
    · exact .here he q4 q5
    · exact .step he q4 q5
  · rintro ⟨_, q0, q1⟩
    cases q1 with
    | here he hx hP =>
      obtain ⟨i, hi, hT⟩ := List.mem_filterMap.1 he.1
      exact ⟨q0, i, _, List.mem_range.1 hi, hT, he.2, .inl ⟨hx, hP⟩⟩
    | step he hx hR =>
      obtain ⟨i, hi, hT⟩ := List.mem_filterMap.1 he.1
      exact ⟨q0, i, _, List.mem_range.1 hi, hT, he.2, .inr ⟨hx, hR⟩⟩
end

def mkNE (t c : Nat) : Value := .agg #[.int .u32 (t : Int), .int .u32 (c : Int), .int .i32 0]
theorem neV_inv {L : Lay} {t : Nat} (key v : Value) (h : neV t (L.NE t) key = some v) : ∃ (x : ByteArray) (c : Nat), key = Value.string x ∧ v = mkNE t c := by
  cases key <;> try (cases h; done)
  rename_i x
  rcases hx : L.NE t x with _ | c
  · simp [neV, hx] at h
  · simp [neV, hx] at h
    exact ⟨x, c, rfl, h.symm⟩
theorem neV_at {L : Lay} {t c : Nat} {x : ByteArray} (h : neV t (L.NE t) (.string x) = some (mkNE t c)) : L.NE t x = some c := by
  rcases hx : L.NE t x with _ | c2
  · simp [neV, hx] at h
  · simp [neV, hx, mkNE] at h
    rw [show c2 = c by omega]
def CR (L : Lay) (s0 : Nat) (W0 : World) (P : List Nat) (t r : Nat) (ρ0 : ByteArray → Option Ent) (cnt : Nat) (W : World) : Prop := ∃ Lf V3 ρ3 R3 β3 bn3, C3 L s0 W0 P t r ρ0 Lf cnt V3 ρ3 R3 β3 bn3 W
/-- a round of that loop, the alias x (at place c) in hand -/
structure Rnd (L : Lay) (s0 : Nat) (W0 : World) (P : List Nat) (t r : Nat) (ρ0 : ByteArray → Option Ent) (x : ByteArray) (c cnt2 : Nat) (V : ByteArray → Value) (ρ : ByteArray → Option Ent) (R : Nat) (β : Nat → Nat × Nat → Bool) (bn : Nat → Nat) (W : World) : Prop where
  old : ∃ Lf cnt Wo, C3 L s0 W0 P t r ρ0 Lf cnt V ρ R β bn Wo ∧ Lf (.string x) ∧ MapR Try.prog 9 W (L.NB t) r (L.sz t) (neV t (L.NE t)) (fun key => Lf key ∧ key ≠ .string x) cnt2
  st : St L W V ρ R β bn
  tn : Tn L none W0 W
  at_ : L.NE t x = some c
  rb : L.B0 ≤ r ∧ W0.heap.size ≤ r
section
variable {L : Lay} {s0 : Nat} {W0 W W2 : World} {P : List Nat} {t r : Nat} {ρ0 : ByteArray → Option Ent} {x : ByteArray} {c cnt cnt2 : Nat} {V V2 : ByteArray → Value} {ρ ρ2 : ByteArray → Option Ent} {R R2 : Nat} {β β2 : Nat → Nat × Nat → Bool} {bn bn2 : Nat → Nat} {Lf : Value → Prop}
theorem iter53 {k : TypeId} {b n : Nat} {f : Value → Option Value} (h : MapR Try.prog k W b r n f Lf cnt) : ¬ Is53 W r := by
  obtain ⟨D, left, ⟨es, clock, since, seen, c0, q1, q2, q3, q4, q5, q6⟩, s⟩ := h
  rintro ⟨cs, fr, q⟩
  rw [q5] at q
  cases q
theorem Rnd.start (A : Apt L) (h : C3 L s0 W0 P t r ρ0 Lf cnt V ρ R β bn W) (hx : Lf (.string x)) (hf : neV t (L.NE t) (.string x) = some (mkNE t c)) (hr : MapR Try.prog 9 W2 (L.NB t) r (L.sz t) (neV t (L.NE t)) (fun key => Lf key ∧ key ≠ .string x) cnt2) (g : W.grownBy W2 (some r)) (rb : L.B0 ≤ r ∧ W0.heap.size ≤ r) :
    Rnd L s0 W0 P t r ρ0 x c cnt2 V ρ R β bn W2 :=
  ⟨⟨Lf, cnt, W, h, hx, hr⟩, h.st.grown A g (fun k hk => by injection hk with hk; subst hk; exact ⟨rb.1, iter53 h.rg⟩), h.tn.trans (Tn.of_grown g) (fun k hk e => by injection e with e; omega), neV_at hf, rb⟩
theorem Rnd.kept (A : Apt L) (h : Rnd L s0 W0 P t r ρ0 x c cnt2 V ρ R β bn W) (k : Kept W W2) : Rnd L s0 W0 P t r ρ0 x c cnt2 V ρ R β bn W2 := by
  obtain ⟨Lf, cnt, Wo, h1, h2, h3⟩ := h.old
  exact ⟨⟨Lf, cnt, Wo, h1, h2, h3.kept k⟩, h.st.kept A k, h.tn.kept k, h.at_, h.rb⟩
theorem Rnd.ex (h : Rnd L s0 W0 P t r ρ0 x c cnt2 V ρ R β bn W) : Exs L t x := by
  unfold Exs
  rw [h.at_]
  rfl
/-- the round leaves the table alone -/
theorem Rnd.skip (h : Rnd L s0 W0 P t r ρ0 x c cnt2 V ρ R β bn W) (hp : Pt (S1 L P t x) (ρ x) (ρ x)) : CR L s0 W0 P t r ρ0 cnt2 W := by
  obtain ⟨Lf, cnt, Wo, h1, h2, h3⟩ := h.old
  exact ⟨_, _, _, _, _, _, h1.step h2 h3 h.st h1.jv h.ex (fun _ _ => rfl) hp h.tn⟩
theorem Rnd.jv (h : Rnd L s0 W0 P t r ρ0 x c cnt2 V ρ R β bn W) : Jv L.n s0 (InN L s0) L.NE dflt ρ β R bn := by
  obtain ⟨Lf, cnt, Wo, h1, h2, h3⟩ := h.old
  exact h1.jv
theorem Rnd.base (h : Rnd L s0 W0 P t r ρ0 x c cnt2 V ρ R β bn W) : ρ x = ρ0 x := by
  obtain ⟨Lf, cnt, Wo, h1, h2, h3⟩ := h.old
  exact h1.stay x h2
/-- the round turns the entry at x -/
theorem Rnd.turn (h : Rnd L s0 W0 P t r ρ0 x c cnt2 V ρ R β bn W) (st : St L W2 V2 ρ2 R2 β2 bn2) (jv : Jv L.n s0 (InN L s0) L.NE dflt ρ2 β2 R2 bn2) (off : ∀ y, y ≠ x → ρ2 y = ρ y) (pt : Pt (S1 L P t x) (ρ x) (ρ2 x)) (tn : Tn L none W0 W2)
    (hb : W2.heap[L.NB t]? = W.heap[L.NB t]?) (hr : W2.heap[r]? = W.heap[r]?) : CR L s0 W0 P t r ρ0 cnt2 W2 := by
  obtain ⟨Lf, cnt, Wo, h1, h2, h3⟩ := h.old
  exact ⟨_, _, _, _, _, _, h1.step h2 (h3.of_blocks hb hr) st jv h.ex off pt tn⟩
end
theorem dflt_iff (x : ByteArray) : (x.toList == [100, 101, 102, 97, 117, 108, 116]) = true ↔ x = dflt := by
  rw [beq_iff_eq, ByteArray.toList_eq]
  constructor
  · intro h
    obtain ⟨⟨l⟩⟩ := x
    simp only at h
    rw [h]
    rfl
  · rintro rfl
    rfl

theorem getD_lt {L : Lay} {s0 : Nat} {w : World} {p : List Nat} {s : Nat} {stk : Value} {V : ByteArray → Value} {ρ : ByteArray → Option Ent} {R : Nat} {β : Nat → Nat × Nat → Bool} {bn : Nat → Nat} (h : Pre L s0 w p s stk V ρ R β bn) {k : Nat} (hk : k < p.length + 1) : (p ++ [s]).getD k 0 < L.n ∧ (p ++ [s]).getD k 0 ∈ p ++ [s] := by
  have hl : (p ++ [s]).length = p.length + 1 := by simp
  have hm : (p ++ [s]).getD k 0 ∈ p ++ [s] := by
    rw [List.getD_eq_getElem?_getD, List.getElem?_eq_getElem (by omega)]
    exact List.getElem_mem _
  refine ⟨?_, hm⟩
  rcases List.mem_append.1 hm with c | c
  · exact h.lt _ c
  · rw [List.mem_singleton.1 c]; exact h.sn
theorem none_all {L : Lay} {P : List Nat} {x : ByteArray} (h : ∀ i, i < P.length → L.NE (P.getD i 0) x = none) : ∀ y ∈ P, ¬ Exs L y x := fun y hy => by
  obtain ⟨i, hi, e⟩ := List.getElem_of_mem hy
  have := h i hi
  rw [List.getD_eq_getElem?_getD, List.getElem?_eq_getElem hi, Option.getD_some, e] at this
  unfold Exs
  rw [this]
  simp
end Go.Proofs.Ytknmcbhcbomjmaa.xs
