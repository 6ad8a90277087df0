/-
  Two runs side by side: the starter and its workers, each with its lone like, through every order of their steps.
  Conditions: none beyond those that each theorem names.
-/
import Derived.Conc.Beside
import Derived.Conc.CrowdTrace
import Derived.Conc.CrowdComm
import Derived.Conc.CrowdCom
import Derived.Test.YtgjhmbbbkkidlaaGreatDoorJc
/-
  A worker in company: its situation, its own step, and what others may do meanwhile.
  Conditions: none; no program in sight.
-/
namespace Go.Proofs.YtgjhmbbbkkidlaaGreatDoor.sim
open Go
open Go.Conc (G)
section
variable {P : Program}
theorem WR.onT {ρ : Rn} {v w : World} (h : WR ρ v w) (T : Tape) (D : Nat) : WR ρ (onT v T D) (onT w T D) := ⟨h.rng, h.g0, h.own, h.only, fun _ _ => rfl⟩
structure Base (P : Program) : Prop where
  bodies : Bodies P
def Gd0 (P : Program) (d0 : List Frame) (s : Sit) : Prop := ∃ ρ w fr' cs', StR P d0 ρ s.fr s.cs fr' cs' ∧ WR ρ s.v w ∧ P.globals.size ≤ ρ.g0 ∧ ∀ g, g < P.globals.size → ρ.rel g g
theorem gds (hb : Base P) (d0 : List Frame) : Gds P (Gd0 P d0) := by
  refine ⟨?_, ?_, ?_⟩
  · rintro s T ⟨ρ, w, fr', cs', st, hw, h1, h2⟩
    exact ⟨ρ, onT w T s.v.drawn, fr', cs', st, hw.onT _ _, h1, h2⟩
  · rintro s ⟨ρ, w, fr', cs', st, hw, h1, h2⟩
    exact (both_step hb.bodies h1 h2 st hw true).tame
  · rintro s s1 ⟨ρ, w, fr', cs', st, hw, h1, h2⟩ ⟨⟨es, he⟩, np, nc⟩
    obtain ⟨⟨tk, on⟩, ρ1, fr1, cs1, w1, es1, _, st1, hw1, hd, _⟩ := (both_step hb.bodies h1 h2 st hw true).follows s1.fr s1.cs s1.v es he np nc
    refine ⟨⟨ρ1, w1, fr1, cs1, st1, hw1, ?_, fun g hg => hd.le.1 _ _ (h2 g hg)⟩, tk, fun T hT => ?_⟩
    · rw [hd.le.2.2]; exact h1
    · obtain ⟨es', h⟩ := on T s.v.drawn fun j q hj => hT _ q (Nat.le_add_right _ _) hj
      have e : s.v.drawn + (s1.v.drawn - s.v.drawn) = s1.v.drawn := by have := tk.1; omega
      rw [e] at h
      exact ⟨⟨es', h⟩, np, nc⟩
def Sub (P : Program) (s1 s : Sit) : Prop := ∃ T, Agrees s T ∧ GoesTo P (s.on T) s1
theorem GoesTo.one {s s1 s2 : Sit} (h : GoesTo P s s1) (g : GoesTo P s s2) : s1 = s2 := by
  obtain ⟨⟨e1, h⟩, _⟩ := h
  obtain ⟨⟨e2, g⟩, _⟩ := g
  rw [h] at g
  injection g with a b c
  unfold G at a
  injection a with d e
  cases s1
  cases s2
  cases d
  cases e
  cases b
  rfl
theorem Fin.acc {Q : Sit → Prop} {s : Sit} (h : Fin P Q s) : Acc (fun s1 s => ¬ Q s ∧ Sub P s1 s) s := by
  induction h with
  | stop q => exact ⟨_, fun s1 h => (h.1 q).elim⟩
  | step nx h1 h2 ih =>
    refine ⟨_, fun s1 h => ?_⟩
    obtain ⟨_, T, ha, go⟩ := h
    rw [go.one (h1 T ha)]
    exact ih T ha
/-- two worlds whose blocks are alike, but for the tape -/
structure WH (ρ : Rn) (v w : World) : Prop where
  rng : ∀ b b', ρ.rel b b' → Blk ρ v w b b'
  g0 : ρ.g0 ≤ v.heap.size ∧ ρ.g0 ≤ w.heap.size
  own : ∀ b, ρ.own b → ∃ b', ρ.rel b b'
  only : ∀ b : Nat, v.heap[b]? = none ∨ (∃ c e fr, v.heap[b]? = some (Obj.cells c e fr)) ∨ ∃ a l, ρ.own b ∧ v.heap[b]? = some (Obj.number a l)
theorem WR.wh {ρ : Rn} {v w : World} (h : WR ρ v w) : WH ρ v w := ⟨h.rng, h.g0, h.own, h.only⟩
theorem WH.wr {ρ : Rn} {v w : World} (h : WH ρ v w) {T : Tape} {D : Nat} (ht : ∀ i q, T (D + i) q = w.tape (w.drawn + i) q) : WR ρ (onT v T D) w := ⟨h.rng, h.g0, h.own, h.only, ht⟩
theorem WH.lt {ρ : Rn} {v w : World} (h : WH ρ v w) {b b' : Nat} (r : ρ.rel b b') : b < v.heap.size ∧ b' < w.heap.size := by
  rcases h.rng b b' r with ⟨c, e, fr, c', fr', h1, h2, _⟩ | ⟨a, a', l, h1, h2, _⟩ <;>
  exact ⟨(Array.getElem?_eq_some_iff.1 h1).1, (Array.getElem?_eq_some_iff.1 h2).1⟩
structure Dsc where
  k : Nat
  d0 : List Frame
  B : Nat
  RB : Nat → Prop
  RO : Addr → Prop
  c : Nat
  Q : Sit → Prop
  H : Array Value
  w0 : World
def Own (ρ : Rn) (b' : Nat) : Prop := ∃ b, ρ.own b ∧ ρ.rel b b'
structure Working (P : Program) (D : Dsc) (ρ : Rn) (s : Sit) (g : Goroutine) (w : World) : Prop where
  st : ∃ fr' cs', g = G fr' cs' ∧ StR P D.d0 ρ s.fr s.cs fr' cs'
  wh : WH ρ s.v w
  hG : P.globals.size ≤ ρ.g0
  hg : ∀ g, g < P.globals.size → ρ.rel g g
  low : ∀ b b', ρ.rel b b' → (b' < D.B ∧ D.RB b' ∧ ¬ ρ.own b ∧ ∀ o x, s.v.cell? ⟨b, o, none⟩ = some x → D.RO ⟨b', o, none⟩) ∨ (D.B ≤ b' ∧ ρ.own b)
def OkEv (D : Dsc) (O : Nat → Prop) (e : Event) : Prop :=
  (e.sync = false ∧ ∃ a, e.loc = .cell a ∧ (O a.block ∨ (e.write = false ∧ D.RO a ∧ D.RB a.block ∧ a.block < D.B))) ∨ (e.write = false ∧ e.sync = false ∧ ∃ b, e.loc = .obj b ∧ O b) ∨ e.loc = .mark .noRoom
/-- what a worker's step does -/
structure Moved (O O1 : Nat → Prop) (w w1 : World) : Prop where
  tape : w1.tape = w.tape
  os : w1.os = w.os
  output : w1.output = w.output
  size : w.heap.size ≤ w1.heap.size
  same : ∀ b, b < w.heap.size → ¬ O b → w1.heap[b]? = w.heap[b]?
  more : ∀ b, O b → O1 b
  fresh : ∀ b, O1 b → O b ∨ w.heap.size ≤ b
theorem Working.lt {D : Dsc} {ρ : Rn} {s : Sit} {g : Goroutine} {w : World} (h : Working P D ρ s g w) {b : Nat} (o : Own ρ b) : D.B ≤ b ∧ b < w.heap.size := by
  obtain ⟨b0, o, r⟩ := o
  refine ⟨?_, (h.wh.lt r).2⟩
  rcases h.low _ _ r with ⟨_, _, no, _⟩ | ⟨l, _⟩
  · exact (no o).elim
  · exact l
theorem ev_ok {D : Dsc} {ρ : Rn} {s : Sit} {g : Goroutine} {w : World} (h : Working P D ρ s g w) {e : Event} (he : EvR ρ s.v e) : OkEv D (Own ρ) e := by
  rcases he with ⟨hs, a, a', e1, ra, ⟨x, hx⟩, hwr⟩ | ⟨e1, e2, b, b', e3, r, o⟩ | e1
  · refine .inl ⟨hs, a', e1, ?_⟩
    rcases h.low _ _ ra.1 with ⟨l, rb, no, ro⟩ | ⟨_, o⟩
    · refine .inr ⟨?_, ?_, rb, l⟩
      · cases hw : e.write with
        | false => rfl
        | true => exact (no (hwr hw)).elim
      · have hsp : a.spot = none := by
          cases hsp : a.spot with
          | none => rfl
          | some z =>
            unfold World.cell? at hx
            rw [hsp] at hx
            split at hx <;> simp at hx
        have ea : a = ⟨a.block, a.off, none⟩ := by cases a; simp at hsp; subst hsp; rfl
        have ea' : a' = ⟨a'.block, a.off, none⟩ := by
          cases a' with
          | mk b' o' s' =>
            obtain ⟨_, h1, h2⟩ := ra
            dsimp only at h1 h2 ⊢
            rw [h1, h2, hsp]
        rw [ea'] 
        rw [ea] at hx
        exact ro _ _ hx
    · exact .inl ⟨_, o, ra.1⟩
  · exact .inr (.inl ⟨e1, e2, b', e3, b, o, r⟩)
  · exact .inr (.inr e1)
theorem work_step (hb : Base P) {D : Dsc} {ρ : Rn} {s : Sit} {g : Goroutine} {w : World} (h : Working P D ρ s g w) (hB : D.B ≤ w.heap.size) (hf : Fin P D.Q s) (nq : ¬ D.Q s) :
    ∃ ρ1 s1 g1 w1 es, stepG P false g w = .go g1 w1 es ∧ g1.status = .running ∧ Working P D ρ1 s1 g1 w1 ∧ Fin P D.Q s1 ∧ Sub P s1 s ∧ Moved (Own ρ) (Own ρ1) w w1 ∧ ∀ e ∈ es, OkEv D (Own ρ1) e := by
  obtain ⟨fr', cs', rfl, st⟩ := h.st
  cases hf with
  | stop q => exact (nq q).elim
  | step nx h1 h2 =>
    let T : Tape := fun i q => if i < s.v.drawn then s.v.tape i q else w.tape (w.drawn + (i - s.v.drawn)) q
    have hT : Agrees s T := fun i q hi => if_pos hi
    have hw : WR ρ (s.on T).v w := h.wh.wr fun i q => by
      show (if s.v.drawn + i < s.v.drawn then _ else _) = _
      rw [if_neg (by omega), show s.v.drawn + i - s.v.drawn = i by omega]
    have go := h1 T hT
    obtain ⟨⟨es, he⟩, np, nc⟩ := go
    obtain ⟨_, ρ1, fr1, cs1, w1, es1, hy, st1, hw1, hd, hev⟩ := (both_step hb.bodies h.hG h.hg st hw false).follows _ _ _ es he np nc
    have hWk : Working P D ρ1 (nx T) (G fr1 cs1) w1 := by
      refine ⟨⟨fr1, cs1, rfl, st1⟩, hw1.wh, ?_, fun g hg => hd.le.1 _ _ (h.hg g hg), fun b b' r => ?_⟩
      · rw [hd.le.2.2]; exact h.hG
      · rcases hd.news b b' r with r0 | o
        · rcases h.low b b' r0 with ⟨l, rb, no, ro⟩ | ⟨l, o⟩
          · have hlt : b < s.v.heap.size := (h.wh.lt r0).1
            refine .inl ⟨l, rb, fun o1 => ?_, fun o x hx => ro o x ?_⟩
            · rcases hd.fown b o1 with o | l2
              · exact no o
              · have l2 : s.v.heap.size ≤ b := l2
                omega
            · have e : (nx T).v.heap[b]? = s.v.heap[b]? := hd.vsame b hlt no
              unfold World.cell? at hx ⊢
              dsimp only at hx ⊢
              rw [e] at hx
              exact hx
          · exact .inr ⟨l, hd.le.2.1 _ o⟩
        · rcases hd.fresh b b' r with r0 | ⟨_, l⟩
          · rcases h.low b b' r0 with ⟨l, rb, no, ro⟩ | ⟨l, _⟩
            · exfalso
              rcases hd.fown b o with o | l2
              · exact no o
              · have hlt : b < s.v.heap.size := (h.wh.lt r0).1
                have l2 : s.v.heap.size ≤ b := l2
                omega
            · exact .inr ⟨l, o⟩
          · exact .inr ⟨by omega, o⟩
    refine ⟨ρ1, nx T, G fr1 cs1, w1, es1, hy, rfl, hWk, h2 T hT, ⟨T, hT, h1 T hT⟩, ⟨hd.tape, hd.os, hd.output, hd.size, fun b l no => ?_, ?_, ?_⟩, fun e he => ev_ok hWk (hev e he)⟩
    · apply Classical.byContradiction
      intro ne
      obtain ⟨b0, o, r⟩ := hd.same b l ne
      exact no ⟨b0, o, r⟩
    · rintro b' ⟨b, o, r⟩
      exact ⟨b, hd.le.2.1 _ o, hd.le.1 _ _ r⟩
    · rintro b' ⟨b, o, r⟩
      rcases hd.fresh b b' r with r0 | ⟨_, l⟩
      · rcases hd.fown b o with o | l2
        · exact .inl ⟨b, o, r0⟩
        · have hlt : b < s.v.heap.size := (h.wh.lt r0).1
          have l2 : s.v.heap.size ≤ b := l2
          omega
      · exact .inr l
/-- a block that a worker reads, as the others may leave it -/
def Kin (RO : Addr → Prop) (w w2 : World) (b : Nat) : Prop :=
  w2.heap[b]? = w.heap[b]? ∨ ∃ c e fr c2, w.heap[b]? = some (Obj.cells c e fr) ∧ w2.heap[b]? = some (Obj.cells c2 e fr) ∧ c2.size = c.size ∧ ∀ o, RO ⟨b, o, none⟩ → c2[o]? = c[o]?
def NotChan (w : World) (b : Nat) : Prop := ∀ cap buf cl s t tm, w.heap[b]? ≠ some (Obj.chan cap buf cl s t tm)
theorem Working.rely {D : Dsc} {ρ : Rn} {s : Sit} {g : Goroutine} {w w2 : World} (h : Working P D ρ s g w) (hs : w.heap.size ≤ w2.heap.size) (ho : ∀ b, Own ρ b → NotChan w b → w2.heap[b]? = w.heap[b]?) (hr : ∀ b, D.RB b → b < D.B → NotChan w b → Kin D.RO w w2 b) : Working P D ρ s g w2 := by
  refine ⟨h.st, ⟨fun b b' r => ?_, ⟨h.wh.g0.1, Nat.le_trans h.wh.g0.2 hs⟩, h.wh.own, h.wh.only⟩, h.hG, h.hg, h.low⟩
  have nc : NotChan w b' := by
    intro cap buf cl s t tm hch
    rcases h.wh.rng b b' r with ⟨c, e1, fr, c', fr', h1, h2, h3⟩ | ⟨a, a', l, h1, h2, h3⟩ <;> rw [h2] at hch <;> cases hch
  rcases h.low b b' r with ⟨l, rb, no, ro⟩ | ⟨l, o⟩
  · rcases hr b' rb l nc with e | ⟨c0, e0, fr0, c2, q1, q2, q3, q4⟩
    · rcases h.wh.rng b b' r with ⟨c, e1, fr, c', fr', h1, h2, h3⟩ | ⟨a, a', l, h1, h2, h3⟩
      · exact .inl ⟨c, e1, fr, c', fr', h1, e.trans h2, h3⟩
      · exact .inr ⟨a, a', l, h1, e.trans h2, h3⟩
    · rcases h.wh.rng b b' r with ⟨c, e1, fr, c', fr', h1, h2, ⟨h3, h3'⟩, h4⟩ | ⟨a, a', l, h1, h2, h3⟩
      · rw [q1] at h2
        cases h2
        refine .inl ⟨c, e0, fr, c2, fr0, h1, q2, ⟨by omega, fun i v hv => ?_⟩, ?_⟩
        · obtain ⟨v', hv', rv⟩ := h3' i v hv
          refine ⟨v', ?_, rv⟩
          rw [q4 i (ro i v ?_)]
          · exact hv'
          · unfold World.cell?
            dsimp only
            rw [h1]
            exact hv
        · rcases h4 with ⟨o, _⟩ | h4
          · exact (no o).elim
          · exact .inr h4
      · rw [q1] at h2
        cases h2
  · have e := ho b' ⟨b, o, r⟩ nc
    rcases h.wh.rng b b' r with ⟨c, e1, fr, c', fr', h1, h2, h3⟩ | ⟨a, a', l, h1, h2, h3⟩
    · exact .inl ⟨c, e1, fr, c', fr', h1, e.trans h2, h3⟩
    · exact .inr ⟨a, a', l, h1, e.trans h2, h3⟩
end
end Go.Proofs.YtgjhmbbbkkidlaaGreatDoor.sim
/-
  What holds of the trace while workers run beside their starter: each reads what nobody writes, writes its own.
  Conditions: none; no program in sight.
-/
namespace Go.Proofs.YtgjhmbbbkkidlaaGreatDoor.sim
open Go
open Go.Conc
open Go.ConcN (PermW upd upd_same upd_ne fork_knows)
inductive Cls where
  | work
  | sent (p : Nat)
  | got
def OwnL (O : Nat → Prop) : Loc → Prop
  | .cell a => O a.block
  | .obj b => O b
  | _ => False
def ReadL (D : Dsc) (l : Loc) : Prop := ∃ a, l = .cell a ∧ D.RO a ∧ D.RB a.block
/-- what a worker may touch -/
def TouW (D : Dsc) (O : Nat → Prop) (x : Touch) : Prop := OwnL O x.loc ∨ (x.write = false ∧ ReadL D x.loc)
structure Tr (J N : Nat) (D : Nat → Dsc) (O : Nat → Nat → Prop) (cl : Nat → Cls) (t : Trace) : Prop where
  clean : ∀ said, ¬ Race said t
  word : Wordless t
  who : ∀ op ∈ t, op.g ≤ J
  tou : ∀ i x k, touchAt t i = some x → x.loc.isMemory = true → t.g? i = some k → k ≠ 0 → TouW (D k) (O k) x
  rd : ∀ k, 1 ≤ k → k ≤ J → cl k = .work → ∀ l, ReadL (D k) l → PermW t k l
  ow : ∀ k, 1 ≤ k → k ≤ J → cl k = .work → ∀ i x, touchAt t i = some x → OwnL (O k) x.loc → t.g? i = some k
  sent : ∀ k p, 1 ≤ k → k ≤ J → cl k = .sent p → (∃ op, t[p]? = some op ∧ op.g = k ∧ op.act = .send (D k).c 0) ∧ ∀ i x, touchAt t i = some x → x.loc.isMemory = true → t.g? i = some k → Before t i p
  got : ∀ k, 1 ≤ k → k ≤ J → cl k = .got → ∀ i x, touchAt t i = some x → x.loc.isMemory = true → t.g? i = some k → Knows t 0 i
  seen : ∀ op ∈ t, op.act.low N
/-- nobody's own blocks are another's, nor are they read by a worker that began with what there was -/
structure Apartly (J N : Nat) (D : Nat → Dsc) (O : Nat → Nat → Prop) : Prop where
  two : ∀ k j, 1 ≤ k → k ≤ J → 1 ≤ j → j ≤ J → k ≠ j → ∀ b, O k b → ¬ O j b
  rb : ∀ k j, 1 ≤ k → k ≤ J → 1 ≤ j → j ≤ J → ∀ b, O k b → ¬ (D j).RB b
  lt : ∀ k, 1 ≤ k → k ≤ J → ∀ b, O k b → b < N
  rlt : ∀ k, 1 ≤ k → k ≤ J → ∀ b, (D k).RB b → b < (D k).B
  bn : ∀ k, 1 ≤ k → k ≤ J → (D k).B ≤ N
theorem touchAt_g {t : Trace} {i : Nat} {x : Touch} (h : touchAt t i = some x) : ∃ op, t[i]? = some op ∧ op.act.touch? = some x ∧ t.g? i = some op.g := by
  obtain ⟨op, h1, h2⟩ := touch_of h
  exact ⟨op, h1, h2, by simp [Trace.g?, h1]⟩
theorem low_of_touch {x : MemAct} {y : Touch} {N : Nat} (h : x.touch? = some y) (hl : x.low N) : y.loc.low N := by
  cases x with
  | access e => cases h; exact hl
  | mark m => cases m <;> first | cases h; exact hl | cases h
  | _ => cases h
theorem OwnL.mono {O O1 : Nat → Prop} (h : ∀ b, O b → O1 b) {l : Loc} (g : OwnL O l) : OwnL O1 l := by
  cases l <;> first | exact h _ g | exact g
theorem OwnL.two {O O1 : Nat → Prop} (h : ∀ b, O b → ¬ O1 b) {l : Loc} (g : OwnL O l) (g1 : OwnL O1 l) : False := by
  cases l <;> first | exact h _ g g1 | exact g
theorem OwnL.new {O O1 : Nat → Prop} {N : Nat} (h : ∀ b, O1 b → O b ∨ N ≤ b) {l : Loc} (g : OwnL O1 l) (hl : l.low N) : OwnL O l := by
  cases l with
  | cell a =>
    rcases h _ g with o | l2
    · exact o
    · have : a.block < N := hl
      omega
  | obj b =>
    rcases h _ g with o | l2
    · exact o
    · have : b < N := hl
      omega
  | _ => exact g
section
variable {J N : Nat} {D : Nat → Dsc} {O : Nat → Nat → Prop} {cl : Nat → Cls} {t u : Trace}
theorem g?_app {i : Nat} (h : i < t.size) : (t ++ u).g? i = t.g? i := by simp [Trace.g?, getElem?_append_old h]
/-- a working goroutine's own operations -/
theorem Tr.appW (h : Tr J N D O cl t) (A : Apartly J N D O) {k : Nat} (k1 : 1 ≤ k) (kJ : k ≤ J) (hc : cl k = .work) {O1 : Nat → Prop} {N1 : Nat} (hN : N ≤ N1) (more : ∀ b, O k b → O1 b) (fresh : ∀ b, O1 b → O k b ∨ N ≤ b)
    (hu : ∀ op ∈ u, op.g = k) (ht : ∀ op ∈ u, ∀ x, op.act.touch? = some x → TouW (D k) O1 x) (hm : Wordless u) (hl : ∀ op ∈ u, op.act.low N1) : Tr J N1 D (upd O k O1) cl (t ++ u) := by
  have hOj : ∀ j, j ≠ k → upd O k O1 j = O j := fun j hj => upd_ne O O1 hj
  have hOk : upd O k O1 k = O1 := upd_same O k O1
  have low : ∀ i x, touchAt t i = some x → x.loc.low N := by
    intro i x hx
    obtain ⟨op, h1, h2, _⟩ := touchAt_g hx
    exact low_of_touch h2 (h.seen op (mem_of_getElem? h1))
  have split : ∀ i x, touchAt (t ++ u) i = some x → (i < t.size ∧ touchAt t i = some x ∧ (t ++ u).g? i = t.g? i) ∨ ((t ++ u).g? i = some k ∧ TouW (D k) O1 x ∧ ∃ op, (t ++ u)[i]? = some op ∧ op.g = k) := by
    intro i x hx
    obtain ⟨op, h1, h2, h3⟩ := touchAt_g hx
    rcases getElem?_append_cases h1 with ⟨hi, h1'⟩ | ⟨_, hou⟩
    · exact .inl ⟨hi, by rw [touchAt_of h1']; exact h2, g?_app hi⟩
    · exact .inr ⟨by rw [h3, hu op hou], ht op hou x h2, op, h1, hu op hou⟩
  have noW : ∀ j, 1 ≤ j → j ≤ J → j ≠ k → ∀ x, TouW (D k) O1 x → OwnL (O j) x.loc → False := by
    intro j j1 jJ hj x hx ho
    rcases hx with hx | ⟨_, a, e, _, rb⟩
    · refine OwnL.two (fun b o1 => ?_) hx ho
      rcases fresh b o1 with o | l
      · exact A.two k j k1 kJ j1 jJ (Ne.symm hj) b o
      · intro oj
        have := A.lt j j1 jJ b oj
        omega
    · rw [e] at ho
      exact A.rb j k j1 jJ k1 kJ _ ho rb
  refine ⟨fun said => ?_, h.word.append hm, fun op hop => ?_, fun i x j hx hmem hg hj => ?_, fun j j1 jJ hw l hr => ?_, fun j j1 jJ hw i x hx ho => ?_, fun j p j1 jJ hs => ?_, fun j j1 jJ hgt i x hx hmem hg => ?_, fun op hop => ?_⟩
  · refine noRace_append (h.clean said) hu fun i a ha op hop b hb hcf => ?_
    obtain ⟨opi, h1, h2, h3⟩ := touchAt_g ha
    obtain ⟨hloc, hmem, hwr, _⟩ := hcf
    rcases ht op hop b hb with hb' | ⟨hbw, hr⟩
    · have ho := OwnL.new fresh (hloc ▸ hb') (low i a ha)
      have := h.ow k k1 kJ hc i a ha ho
      rw [h3] at this
      have e : opi.g = k := Option.some.inj this
      exact e ▸ knows_own h1
    · have haw : a.write = true := by
        rcases hwr with hw | hw
        · exact hw
        · rw [hbw] at hw; cases hw
      exact h.rd k k1 kJ hc _ hr i a ha hloc haw
  · rcases Array.mem_append.1 hop with ho | ho
    · exact h.who op ho
    · rw [hu op ho]; exact kJ
  · rcases split i x hx with ⟨_, hx', hg'⟩ | ⟨hg', hx', _⟩
    · rw [hg'] at hg
      have := h.tou i x j hx' hmem hg hj
      by_cases e : j = k
      · subst e
        rw [hOk]
        exact this.imp (OwnL.mono more) id
      · rw [hOj j e]; exact this
    · rw [hg'] at hg
      cases hg
      rw [hOk]; exact hx'
  · refine (h.rd j j1 jJ hw l hr).app fun op hop b hb hbl hbw => ?_
    rw [hu op hop]
    apply Classical.byContradiction
    intro e
    obtain ⟨a, el, ro, rb⟩ := hr
    rcases ht op hop b hb with ho | ⟨hn, _⟩
    · rw [hbl, el] at ho
      have ho : O1 a.block := ho
      rcases fresh _ ho with o | l
      · exact A.rb k j k1 kJ j1 jJ _ o rb
      · have := A.rlt j j1 jJ _ rb
        have := A.bn j j1 jJ
        omega
    · rw [hbw] at hn; cases hn
  · by_cases e : j = k
    · subst e
      rcases split i x hx with ⟨_, hx', hg'⟩ | ⟨hg', hx', _⟩
      · rw [hg']
        rw [hOk] at ho
        exact h.ow j j1 jJ hw i x hx' (OwnL.new fresh ho (low i x hx'))
      · exact hg'
    · rw [hOj j e] at ho
      rcases split i x hx with ⟨_, hx', hg'⟩ | ⟨hg', hx', _⟩
      · rw [hg']
        exact h.ow j j1 jJ hw i x hx' ho
      · exact (noW j j1 jJ e x hx' ho).elim
  · obtain ⟨⟨op, h1, h2, h3⟩, h4⟩ := h.sent j p j1 jJ hs
    refine ⟨⟨op, by rw [getElem?_append_old (lt_size_of_getElem? h1)]; exact h1, h2, h3⟩, fun i x hx hmem hg => ?_⟩
    rcases split i x hx with ⟨_, hx', hg'⟩ | ⟨hg', _, _⟩
    · rw [hg'] at hg
      exact (h4 i x hx' hmem hg).app u
    · rw [hg'] at hg
      cases hg
      rw [hc] at hs
      cases hs
  · rcases split i x hx with ⟨_, hx', hg'⟩ | ⟨hg', _, _⟩
    · rw [hg'] at hg
      exact (h.got j j1 jJ hgt i x hx' hmem hg).app u
    · rw [hg'] at hg
      cases hg
      rw [hc] at hgt
      cases hgt
  · rcases Array.mem_append.1 hop with ho | ho
    · exact MemAct.low_mono hN (h.seen op ho)
    · exact hl op ho
/-- operations that touch nothing, of whoever is there -/
theorem Tr.appN (h : Tr J N D O cl t) {N1 : Nat} (hN : N ≤ N1) (hu : ∀ op ∈ u, op.g ≤ J) (ht : ∀ op ∈ u, op.act.touch? = none) (hm : Wordless u) (hl : ∀ op ∈ u, op.act.low N1) : Tr J N1 D O cl (t ++ u) := by
  have split : ∀ i x, touchAt (t ++ u) i = some x → touchAt t i = some x ∧ (t ++ u).g? i = t.g? i := by
    intro i x hx
    obtain ⟨op, h1, h2, h3⟩ := touchAt_g hx
    rcases getElem?_append_cases h1 with ⟨hi, h1'⟩ | ⟨_, hou⟩
    · exact ⟨by rw [touchAt_of h1']; exact h2, g?_app hi⟩
    · rw [ht op hou] at h2; cases h2
  refine ⟨fun said => ?_, h.word.append hm, fun op hop => ?_, fun i x j hx hmem hg hj => ?_, fun j j1 jJ hw l hr => ?_, fun j j1 jJ hw i x hx ho => ?_, fun j p j1 jJ hs => ?_, fun j j1 jJ hgt i x hx hmem hg => ?_, fun op hop => ?_⟩
  · rintro ⟨i, j, hij, ⟨a, b, ha, hb, hc⟩, n1, n2⟩
    obtain ⟨ha', _⟩ := split i a ha
    obtain ⟨hb', _⟩ := split j b hb
    exact h.clean said ⟨i, j, hij, ⟨a, b, ha', hb', hc⟩, fun e => n1 (hb_app u e), fun e => n2 (hb_app u e)⟩
  · exact (Array.mem_append.1 hop).elim (h.who op) (hu op)
  · obtain ⟨hx', hg'⟩ := split i x hx
    rw [hg'] at hg
    exact h.tou i x j hx' hmem hg hj
  · exact (h.rd j j1 jJ hw l hr).app fun op hop b hb => by rw [ht op hop] at hb; cases hb
  · obtain ⟨hx', hg'⟩ := split i x hx
    rw [hg']
    exact h.ow j j1 jJ hw i x hx' ho
  · obtain ⟨⟨op, h1, h2, h3⟩, h4⟩ := h.sent j p j1 jJ hs
    refine ⟨⟨op, by rw [getElem?_append_old (lt_size_of_getElem? h1)]; exact h1, h2, h3⟩, fun i x hx hmem hg => ?_⟩
    obtain ⟨hx', hg'⟩ := split i x hx
    rw [hg'] at hg
    exact (h4 i x hx' hmem hg).app u
  · obtain ⟨hx', hg'⟩ := split i x hx
    rw [hg'] at hg
    exact (h.got j j1 jJ hgt i x hx' hmem hg).app u
  · exact (Array.mem_append.1 hop).elim (fun o => MemAct.low_mono hN (h.seen op o)) (hl op)
/-- what the starter may touch -/
def Tou0 (J : Nat) (D : Nat → Dsc) (O : Nat → Nat → Prop) (cl : Nat → Cls) (x : Touch) : Prop :=
  ∀ k, 1 ≤ k → k ≤ J → (OwnL (O k) x.loc → cl k = .got) ∧ (x.write = true → ¬ ReadL (D k) x.loc)
theorem Tr.app0 (h : Tr J N D O cl t) {N1 : Nat} (hN : N ≤ N1) (hu : ∀ op ∈ u, op.g = 0) (ht : ∀ op ∈ u, ∀ x, op.act.touch? = some x → Tou0 J D O cl x) (hm : Wordless u) (hl : ∀ op ∈ u, op.act.low N1) : Tr J N1 D O cl (t ++ u) := by
  have split : ∀ i x, touchAt (t ++ u) i = some x → (touchAt t i = some x ∧ (t ++ u).g? i = t.g? i) ∨ ((t ++ u).g? i = some 0 ∧ Tou0 J D O cl x) := by
    intro i x hx
    obtain ⟨op, h1, h2, h3⟩ := touchAt_g hx
    rcases getElem?_append_cases h1 with ⟨hi, h1'⟩ | ⟨_, hou⟩
    · exact .inl ⟨by rw [touchAt_of h1']; exact h2, g?_app hi⟩
    · exact .inr ⟨by rw [h3, hu op hou], ht op hou x h2⟩
  refine ⟨fun said => ?_, h.word.append hm, fun op hop => ?_, fun i x j hx hmem hg hj => ?_, fun j j1 jJ hw l hr => ?_, fun j j1 jJ hw i x hx ho => ?_, fun j p j1 jJ hs => ?_, fun j j1 jJ hgt i x hx hmem hg => ?_, fun op hop => ?_⟩
  · refine noRace_append (h.clean said) hu fun i a ha op hop b hb hcf => ?_
    obtain ⟨opi, h1, h2, h3⟩ := touchAt_g ha
    obtain ⟨hloc, hmem, hwr, _⟩ := hcf
    by_cases e : opi.g = 0
    · exact e ▸ knows_own h1
    · have hJ : opi.g ≤ J := h.who opi (mem_of_getElem? h1)
      have h1' : 1 ≤ opi.g := Nat.one_le_iff_ne_zero.2 e
      have q := ht op hop b hb opi.g h1' hJ
      rcases h.tou i a opi.g ha hmem h3 e with ho | ⟨hn, hr⟩
      · exact h.got opi.g h1' hJ (q.1 (hloc ▸ ho)) i a ha hmem h3
      · have hbw : b.write = true := by
          rcases hwr with hw | hw
          · rw [hn] at hw; cases hw
          · exact hw
        exact (q.2 hbw (hloc ▸ hr)).elim
  · rcases Array.mem_append.1 hop with ho | ho
    · exact h.who op ho
    · rw [hu op ho]; exact Nat.zero_le _
  · rcases split i x hx with ⟨hx', hg'⟩ | ⟨hg', _⟩
    · rw [hg'] at hg
      exact h.tou i x j hx' hmem hg hj
    · rw [hg'] at hg
      exact (hj (Option.some.inj hg).symm).elim
  · refine (h.rd j j1 jJ hw l hr).app fun op hop b hb hbl hbw => ?_
    exact ((ht op hop b hb j j1 jJ).2 hbw (hbl ▸ hr)).elim
  · rcases split i x hx with ⟨hx', hg'⟩ | ⟨hg', q⟩
    · rw [hg']
      exact h.ow j j1 jJ hw i x hx' ho
    · have := (q j j1 jJ).1 ho
      rw [hw] at this
      cases this
  · obtain ⟨⟨op, h1, h2, h3⟩, h4⟩ := h.sent j p j1 jJ hs
    refine ⟨⟨op, by rw [getElem?_append_old (lt_size_of_getElem? h1)]; exact h1, h2, h3⟩, fun i x hx hmem hg => ?_⟩
    rcases split i x hx with ⟨hx', hg'⟩ | ⟨hg', _⟩
    · rw [hg'] at hg
      exact (h4 i x hx' hmem hg).app u
    · rw [hg'] at hg
      have := Option.some.inj hg
      omega
  · rcases split i x hx with ⟨hx', hg'⟩ | ⟨hg', _⟩
    · rw [hg'] at hg
      exact (h.got j j1 jJ hgt i x hx' hmem hg).app u
    · rw [hg'] at hg
      have := Option.some.inj hg
      omega
  · exact (Array.mem_append.1 hop).elim (fun o => MemAct.low_mono hN (h.seen op o)) (hl op)
end
end Go.Proofs.YtgjhmbbbkkidlaaGreatDoor.sim
/-
  The trace while workers run: a go statement, a send, a receive, the end.
  Conditions: none; no program in sight.
-/
namespace Go.Proofs.YtgjhmbbbkkidlaaGreatDoor.sim
open Go
open Go.Conc
open Go.ConcN (PermW upd upd_same upd_ne fork_knows)
section
variable {J N : Nat} {D : Nat → Dsc} {O : Nat → Nat → Prop} {cl : Nat → Cls} {t u : Trace}
theorem silent_split (ht : ∀ op ∈ u, op.act.touch? = none) {i : Nat} {x : Touch} (hx : touchAt (t ++ u) i = some x) : i < t.size ∧ touchAt t i = some x ∧ (t ++ u).g? i = t.g? i := by
  obtain ⟨op, h1, h2, h3⟩ := touchAt_g hx
  rcases getElem?_append_cases h1 with ⟨hi, h1'⟩ | ⟨_, hou⟩
  · exact ⟨hi, by rw [touchAt_of h1']; exact h2, g?_app hi⟩
  · rw [ht op hou] at h2; cases h2
/-- a go statement -/
theorem Tr.fork (h : Tr J N D O cl t) (hd : ∀ j, 1 ≤ j → j ≤ J → ∀ b, O j b → ¬ (D (J + 1)).RB b) (hO : ∀ b, ¬ O (J + 1) b) (hc : cl (J + 1) = .work) {x y : MemOp} (hx : x.g = 0 ∧ x.act = .go (J + 1)) (hy : y.g = J + 1 ∧ y.act = .start) : Tr (J + 1) N D O cl (t ++ #[x, y]) := by
  have ht : ∀ op ∈ #[x, y], op.act.touch? = none := by
    intro op hop
    simp at hop
    rcases hop with rfl | rfl
    · rw [hx.2]; rfl
    · rw [hy.2]; rfl
  have hm : Wordless #[x, y] := by
    intro op hop m e
    simp at hop
    rcases hop with rfl | rfl
    · rw [hx.2] at e; cases e
    · rw [hy.2] at e; cases e
  have le : ∀ j, j ≤ J + 1 → j ≤ J ∨ j = J + 1 := fun j hj => by omega
  refine ⟨fun said => ?_, h.word.append hm, fun op hop => ?_, fun i x j hx hmem hg hj => ?_, fun j j1 jJ hw l hr => ?_, fun j j1 jJ hw i x hx ho => ?_, fun j p j1 jJ hs => ?_, fun j j1 jJ hgt i x hx hmem hg => ?_, fun op hop => ?_⟩
  · rintro ⟨i, j, hij, ⟨a, b, ha, hb, hc⟩, n1, n2⟩
    obtain ⟨_, ha', _⟩ := silent_split ht ha
    obtain ⟨_, hb', _⟩ := silent_split ht hb
    exact h.clean said ⟨i, j, hij, ⟨a, b, ha', hb', hc⟩, fun e => n1 (hb_app _ e), fun e => n2 (hb_app _ e)⟩
  · rcases Array.mem_append.1 hop with ho | ho
    · exact Nat.le_succ_of_le (h.who op ho)
    · simp at ho
      rcases ho with rfl | rfl
      · rw [hx.1]; exact Nat.zero_le _
      · rw [hy.1]; exact Nat.le_refl _
  · obtain ⟨_, hx', hg'⟩ := silent_split ht hx
    rw [hg'] at hg
    exact h.tou i x j hx' hmem hg hj
  · rcases le j jJ with jJ' | rfl
    · exact (h.rd j j1 jJ' hw l hr).app fun op hop b hb => by rw [ht op hop] at hb; cases hb
    · intro i a ha hl haw
      obtain ⟨_, ha', _⟩ := silent_split ht ha
      obtain ⟨opi, h1, h2, h3⟩ := touchAt_g ha'
      refine fork_knows hx hy (h.word.deaf _ _) (h.word.deaf _ _) ?_
      by_cases e : opi.g = 0
      · exact e ▸ knows_own h1
      · exfalso
        have hJ : opi.g ≤ J := h.who opi (mem_of_getElem? h1)
        have h1' : 1 ≤ opi.g := Nat.one_le_iff_ne_zero.2 e
        obtain ⟨ad, el, ro, rb⟩ := hr
        have hmem : a.loc.isMemory = true := by rw [hl, el]; rfl
        rcases h.tou i a opi.g ha' hmem h3 e with ho | ⟨hn, _⟩
        · rw [hl, el] at ho
          exact hd opi.g h1' hJ _ ho rb
        · rw [haw] at hn; cases hn
  · obtain ⟨_, hx', hg'⟩ := silent_split ht hx
    rcases le j jJ with jJ' | rfl
    · rw [hg']; exact h.ow j j1 jJ' hw i x hx' ho
    · exfalso
      cases hl : x.loc <;> rw [hl] at ho <;> first | exact hO _ ho | exact ho
  · rcases le j jJ with jJ' | rfl
    · obtain ⟨⟨op, h1, h2, h3⟩, h4⟩ := h.sent j p j1 jJ' hs
      refine ⟨⟨op, by rw [getElem?_append_old (lt_size_of_getElem? h1)]; exact h1, h2, h3⟩, fun i x hx hmem hg => ?_⟩
      obtain ⟨_, hx', hg'⟩ := silent_split ht hx
      rw [hg'] at hg
      exact (h4 i x hx' hmem hg).app _
    · rw [hc] at hs; cases hs
  · rcases le j jJ with jJ' | rfl
    · obtain ⟨_, hx', hg'⟩ := silent_split ht hx
      rw [hg'] at hg
      exact (h.got j j1 jJ' hgt i x hx' hmem hg).app _
    · rw [hc] at hgt; cases hgt
  · rcases Array.mem_append.1 hop with ho | ho
    · exact h.seen op ho
    · simp at ho
      rcases ho with rfl | rfl
      · rw [hx.2]; trivial
      · rw [hy.2]; trivial
/-- another word for where the workers stand -/
theorem Tr.cls (h : Tr J N D O cl t) {cl' : Nat → Cls} (hw : ∀ k, cl' k = .work → cl k = .work)
    (hs : ∀ k p, 1 ≤ k → k ≤ J → cl' k = .sent p → (∃ op, t[p]? = some op ∧ op.g = k ∧ op.act = .send (D k).c 0) ∧ ∀ i x, touchAt t i = some x → x.loc.isMemory = true → t.g? i = some k → Before t i p)
    (hg : ∀ k, 1 ≤ k → k ≤ J → cl' k = .got → ∀ i x, touchAt t i = some x → x.loc.isMemory = true → t.g? i = some k → Knows t 0 i) : Tr J N D O cl' t :=
  ⟨h.clean, h.word, h.who, h.tou, fun k a b c => h.rd k a b (hw k c), fun k a b c => h.ow k a b (hw k c), hs, hg, h.seen⟩
theorem at_app {t u : Trace} {j : Nat} {x : MemOp} (h : u[j]? = some x) : (t ++ u)[t.size + j]? = some x := by
  rw [Array.getElem?_append_right (Nat.le_add_right _ _), Nat.add_sub_cancel_left]; exact h
/-- a worker's send into the buffer -/
theorem Tr.sentNow {x y : MemOp} (h : Tr J N D O cl (t ++ #[x, y])) {k : Nat} (hx : x.g = k ∧ x.act = .send (D k).c 0) (hy : y.act.touch? = none) : Tr J N D O (upd cl k (.sent t.size)) (t ++ #[x, y]) := by
  have ht : ∀ op ∈ #[x, y], op.act.touch? = none := by
    intro op hop
    simp at hop
    rcases hop with rfl | rfl
    · rw [hx.2]; rfl
    · exact hy
  have hp : (t ++ #[x, y])[t.size]? = some x := at_app (j := 0) rfl
  refine h.cls (fun j hj => ?_) (fun j p j1 jJ hs => ?_) fun j j1 jJ hg => ?_
  · by_cases e : j = k
    · subst e; rw [upd_same] at hj; cases hj
    · rw [upd_ne cl _ e] at hj; exact hj
  · by_cases e : j = k
    · subst e
      rw [upd_same] at hs
      cases hs
      refine ⟨⟨x, hp, hx.1, hx.2⟩, fun i y hyt hmem hg => .inr ?_⟩
      obtain ⟨hi, _, _⟩ := silent_split ht hyt
      obtain ⟨op, h1, _, h3⟩ := touchAt_g hyt
      rw [hg] at h3
      exact hb_po hi h1 hp ((Option.some.inj h3).symm.trans hx.1.symm)
    · rw [upd_ne cl _ e] at hs; exact h.sent j p j1 jJ hs
  · by_cases e : j = k
    · subst e; rw [upd_same] at hg; cases hg
    · rw [upd_ne cl _ e] at hg; exact h.got j j1 jJ hg
/-- the starter takes the value out of the buffer -/
theorem Tr.gotNow {x y : MemOp} (h : Tr J N D O cl (t ++ #[x, y])) {k p : Nat} (k1 : 1 ≤ k) (kJ : k ≤ J) (hc : cl k = .sent p) (hy : y.g = 0 ∧ y.act = .recvDone (D k).c 0) : Tr J N D O (upd cl k .got) (t ++ #[x, y]) := by
  have hq : (t ++ #[x, y])[t.size + 1]? = some y := at_app (j := 1) rfl
  refine h.cls (fun j hj => ?_) (fun j p j1 jJ hs => ?_) fun j j1 jJ hg => ?_
  · by_cases e : j = k
    · subst e; rw [upd_same] at hj; cases hj
    · rw [upd_ne cl _ e] at hj; exact hj
  · by_cases e : j = k
    · subst e; rw [upd_same] at hs; cases hs
    · rw [upd_ne cl _ e] at hs; exact h.sent j p j1 jJ hs
  · by_cases e : j = k
    · subst e
      obtain ⟨⟨op, h1, h2, h3⟩, h4⟩ := h.sent j p k1 kJ hc
      intro i z hz hmem hgi
      have edge : HappensBefore (t ++ #[x, y]) p (t.size + 1) := .single (.inr ⟨.handOver (c := (D j).c) (k := 0) (by rw [act?_of h1, h3]) (by rw [act?_of hq, hy.2]), h.word.heard h1, h.word.heard hq⟩)
      exact ⟨t.size + 1, y, hq, hy.1, .inr ((h4 i z hz hmem hgi).hb edge)⟩
    · rw [upd_ne cl _ e] at hg; exact h.got j j1 jJ hg
/-- a worker's send meets the starter that waits -/
theorem Tr.met {x1 x2 x3 x4 : MemOp} (h : Tr J N D O cl (t ++ #[x1, x2, x3, x4])) {k : Nat} (ht : ∀ op ∈ #[x1, x2, x3, x4], op.act.touch? = none) (hx : x1.g = k ∧ x1.act = .send (D k).c 0) (hy : x4.g = 0 ∧ x4.act = .recvDone (D k).c 0) : Tr J N D O (upd cl k .got) (t ++ #[x1, x2, x3, x4]) := by
  have hp : (t ++ #[x1, x2, x3, x4])[t.size]? = some x1 := at_app (j := 0) rfl
  have hq : (t ++ #[x1, x2, x3, x4])[t.size + 3]? = some x4 := at_app (j := 3) rfl
  refine h.cls (fun j hj => ?_) (fun j p j1 jJ hs => ?_) fun j j1 jJ hg => ?_
  · by_cases e : j = k
    · subst e; rw [upd_same] at hj; cases hj
    · rw [upd_ne cl _ e] at hj; exact hj
  · by_cases e : j = k
    · subst e; rw [upd_same] at hs; cases hs
    · rw [upd_ne cl _ e] at hs; exact h.sent j p j1 jJ hs
  · by_cases e : j = k
    · subst e
      intro i z hz hmem hgi
      obtain ⟨hi, _, _⟩ := silent_split ht hz
      obtain ⟨op, h1, _, h3⟩ := touchAt_g hz
      rw [hgi] at h3
      have e1 : HappensBefore (t ++ #[x1, x2, x3, x4]) i t.size := hb_po hi h1 hp ((Option.some.inj h3).symm.trans hx.1.symm)
      have edge : HappensBefore (t ++ #[x1, x2, x3, x4]) t.size (t.size + 3) := .single (.inr ⟨.handOver (c := (D j).c) (k := 0) (by rw [act?_of hp, hx.2]) (by rw [act?_of hq, hy.2]), h.word.heard hp, h.word.heard hq⟩)
      exact ⟨t.size + 3, x4, hq, hy.1, .inr (e1.trans edge)⟩
    · rw [upd_ne cl _ e] at hg; exact h.got j j1 jJ hg
/-- all have been heard: nothing is left -/
theorem Tr.past (h : Tr J N D O cl t) (hg : ∀ k, 1 ≤ k → k ≤ J → cl k = .got) : Past (fun _ => False) N t := by
  have known : ∀ i a, touchAt t i = some a → a.loc.isMemory = true → Knows t 0 i := by
    intro i a ha hm
    obtain ⟨op, h1, h2, h3⟩ := touchAt_g ha
    by_cases e : op.g = 0
    · exact e ▸ knows_own h1
    · have h1' : 1 ≤ op.g := Nat.one_le_iff_ne_zero.2 e
      have hJ : op.g ≤ J := h.who op (mem_of_getElem? h1)
      exact h.got op.g h1' hJ (hg op.g h1' hJ) i a ha hm h3
  refine ⟨h.clean, fun i a ha hm => .inl (known i a ha hm), fun i g hgi hne hc => ?_, h.word.deaf _ _, h.seen⟩
  obtain ⟨x, hx, hm, _⟩ := hc
  obtain ⟨q, z, h1, h2, h3⟩ := known i x hx hm
  refine ⟨q, by simp [Trace.g?, h1, h2], ?_⟩
  rcases h3 with rfl | h3
  · exfalso
    have : t.g? i = some z.g := by simp [Trace.g?, h1]
    rw [hgi] at this
    exact hne ((Option.some.inj this).trans h2)
  · exact h3
end
end Go.Proofs.YtgjhmbbbkkidlaaGreatDoor.sim
/-
  The company: the starter and its workers, at every moment.
  Conditions: none; no program in sight.
-/
namespace Go.Proofs.YtgjhmbbbkkidlaaGreatDoor.sim
open Go
open Go.Conc
open Go.ConcN (PermW upd upd_same upd_ne get_map_set get_map_set_same)
abbrev View := Nat → Option Obj
def Sees (F : View) (w : World) : Prop := ∀ b o, F b = some o → w.heap[b]? = some o
/-- the hash, handed over -/
def Gv (H : Array Value) (O : Nat → Prop) (val : Value) (w : World) : Prop :=
  ∃ b cp c e fr, val = .slice (some ⟨b, 0, none⟩) 8 cp ∧ O b ∧ w.heap[b]? = some (Obj.cells c e fr) ∧ ∀ i, i < 8 → ∃ v, c[i]? = some v ∧ H[i]? = some v
/-- how far a worker is from its end -/
inductive Rk where
  | b (s : Sit)
  | w (s : Sit)
  | o (n : Nat)
/-- where a worker stands -/
def Wst (P : Program) (D : Dsc) (O : Nat → Prop) (cl : Cls) (rk : Rk) (g : Goroutine) (w : World) : Prop :=
  match cl, rk with
  | .work, .w s => (∃ ρ, Working P D ρ s g w ∧ ∀ b, O b ↔ Own ρ b) ∧ Fin P D.Q s ∧ g.status = .running ∧ ∃ tm, w.heap[D.c]? = some (Obj.chan 1 #[] false 0 0 tm)
  | .work, .b s => (∃ g0, (∀ w, stepG P false g w = .go g0 w #[]) ∧ g0.status = .running ∧ ∃ ρ, Working P D ρ s g0 w ∧ ∀ b, O b ↔ Own ρ b) ∧ Fin P D.Q s ∧ g.status = .running ∧ ∃ tm, w.heap[D.c]? = some (Obj.chan 1 #[] false 0 0 tm)
  | .sent _, .o n => QuitsIn P n g ∧ ∃ val tm, w.heap[D.c]? = some (Obj.chan 1 #[val] false 1 0 tm) ∧ Gv D.H O val w
  | .got, .o n => QuitsIn P n g
  | _, _ => False
theorem QuitsIn.st {P : Program} {n : Nat} {g : Goroutine} (h : QuitsIn P n g) : g.status = .running ∨ g.status = .finished := (QuitsD.of_quitsIn h).status
theorem Wst.st {P : Program} {D : Dsc} {O : Nat → Prop} {cl : Cls} {rk : Rk} {g : Goroutine} {w : World} (h : Wst P D O cl rk g w) : g.status = .running ∨ g.status = .finished := by
  cases cl <;> cases rk <;> first | exact h.elim | skip
  · exact .inl h.2.2.1
  · exact .inl h.2.2.1
  · exact QuitsIn.st h.1
  · exact QuitsIn.st h
theorem Wst.ch0 {P : Program} {D : Dsc} {O : Nat → Prop} {rk : Rk} {g : Goroutine} {w : World} (h : Wst P D O .work rk g w) : ∃ tm, w.heap[D.c]? = some (Obj.chan 1 #[] false 0 0 tm) := by
  cases rk <;> first | exact h.elim | exact h.2.2.2
theorem Wst.ch {P : Program} {D : Dsc} {O : Nat → Prop} {cl : Cls} {rk : Rk} {g : Goroutine} {w : World} (h : Wst P D O cl rk g w) (hc : cl ≠ .got) : ∃ buf s tm, w.heap[D.c]? = some (Obj.chan 1 buf false s 0 tm) := by
  cases cl with
  | work => obtain ⟨tm, h⟩ := h.ch0; exact ⟨_, _, _, h⟩
  | sent p =>
    cases rk <;> first | exact h.elim | skip
    obtain ⟨_, val, tm, h, _⟩ := h
    exact ⟨_, _, _, h⟩
  | got => exact (hc rfl).elim
theorem Wst.rely {P : Program} {D : Dsc} {O : Nat → Prop} {cl : Cls} {rk : Rk} {g : Goroutine} {w w2 : World} (h : Wst P D O cl rk g w) (hs : w.heap.size ≤ w2.heap.size)
    (ho : cl ≠ .got → ∀ b, O b → NotChan w b → w2.heap[b]? = w.heap[b]?) (hr : cl = .work → ∀ b, D.RB b → b < D.B → NotChan w b → Kin D.RO w w2 b) (hc : cl ≠ .got → w2.heap[D.c]? = w.heap[D.c]?) : Wst P D O cl rk g w2 := by
  cases cl <;> cases rk <;> first | exact h.elim | skip
  · obtain ⟨⟨g0, h1, h2, ρ, hw, hO⟩, hf, hg, tm, hch⟩ := h
    exact ⟨⟨g0, h1, h2, ρ, hw.rely hs (fun b o => ho (by simp) b ((hO b).2 o)) (hr rfl), hO⟩, hf, hg, tm, (hc (by simp)).trans hch⟩
  · obtain ⟨⟨ρ, hw, hO⟩, hf, hg, tm, hch⟩ := h
    exact ⟨⟨ρ, hw.rely hs (fun b o => ho (by simp) b ((hO b).2 o)) (hr rfl), hO⟩, hf, hg, tm, (hc (by simp)).trans hch⟩
  · obtain ⟨hq, val, tm, hch, b, cp, c, e, fr, h1, h2, h3, h4⟩ := h
    exact ⟨hq, val, tm, (hc (by simp)).trans hch, b, cp, c, e, fr, h1, h2, (ho (by simp) b h2 (by intro _ _ _ _ _ _ q; rw [h3] at q; cases q)).trans h3, h4⟩
  · exact h
/-- nearer to the end -/
inductive Dn (P : Program) (Q : Sit → Prop) : Rk → Rk → Prop
  | b (s : Sit) : Dn P Q (.w s) (.b s)
  | s {s1 s : Sit} : ¬ Q s → Sub P s1 s → Dn P Q (.w s1) (.w s)
  | q (n : Nat) (s : Sit) : Dn P Q (.o n) (.w s)
  | n {m n : Nat} : m < n → Dn P Q (.o m) (.o n)
theorem Dn.acc_n (P : Program) (Q : Sit → Prop) : ∀ n : Nat, Acc (Dn P Q) (.o n) := by
  intro n
  induction n using Nat.strongRecOn with
  | _ n ih =>
    refine ⟨_, fun y h => ?_⟩
    cases h with
    | n l => exact ih _ l
theorem Dn.acc_of {P : Program} {Q : Sit → Prop} {s : Sit} (h : Acc (fun s1 s => ¬ Q s ∧ Sub P s1 s) s) : Acc (Dn P Q) (.w s) := by
  induction h with
  | intro s _ ih =>
    refine ⟨_, fun y h => ?_⟩
    cases h with
    | s a b => exact ih _ ⟨a, b⟩
    | q n s => exact Dn.acc_n P Q n
theorem Dn.acc_s {P : Program} {Q : Sit → Prop} {s : Sit} (h : Fin P Q s) : Acc (Dn P Q) (.w s) := Dn.acc_of h.acc
theorem Dn.acc_b {P : Program} {Q : Sit → Prop} {s : Sit} (h : Fin P Q s) : Acc (Dn P Q) (.b s) := by
  refine ⟨_, fun y hy => ?_⟩
  cases hy
  exact Dn.acc_s h
theorem Wst.acc {P : Program} {D : Dsc} {O : Nat → Prop} {cl : Cls} {rk : Rk} {g : Goroutine} {w : World} (h : Wst P D O cl rk g w) : Acc (Dn P D.Q) rk := by
  cases cl <;> cases rk <;> first | exact h.elim | skip
  · exact Dn.acc_b h.2.1
  · exact Dn.acc_s h.2.1
  · exact Dn.acc_n _ _ _
  · exact Dn.acc_n _ _ _
/-- one worker comes nearer, the others stay -/
def Nearer (P : Program) (D : Nat → Dsc) (J : Nat) (r' r : Nat → Rk) : Prop := ∃ k, 1 ≤ k ∧ k ≤ J ∧ Dn P (D k).Q (r' k) (r k) ∧ ∀ j, j ≠ k → r' j = r j
theorem nearer_acc (P : Program) (D : Nat → Dsc) : ∀ (J : Nat) (r : Nat → Rk), (∀ k, 1 ≤ k → k ≤ J → Acc (Dn P (D k).Q) (r k)) → Acc (Nearer P D J) r := by
  intro J
  induction J with
  | zero =>
    intro r _
    refine ⟨_, fun r' h => ?_⟩
    obtain ⟨k, h1, h2, _⟩ := h
    omega
  | succ J ih =>
    have outer : ∀ x, Acc (Dn P (D (J + 1)).Q) x → ∀ r, (∀ k, 1 ≤ k → k ≤ J → Acc (Dn P (D k).Q) (r k)) → r (J + 1) = x → Acc (Nearer P D (J + 1)) r := by
      intro x hx
      induction hx with
      | intro x _ ihx =>
        intro r hr
        have hin := ih r hr
        induction hin with
        | intro r _ ihr =>
          intro e
          refine ⟨_, fun r' h => ?_⟩
          obtain ⟨k, k1, k2, hd, ho⟩ := h
          have hcomp : ∀ j, 1 ≤ j → j ≤ J → Acc (Dn P (D j).Q) (r' j) := by
            intro j j1 j2
            by_cases ej : j = k
            · subst ej; exact (hr j j1 j2).inv hd
            · rw [ho j ej]; exact hr j j1 j2
          by_cases ek : k = J + 1
          · subst ek
            rw [e] at hd
            exact ihx (r' (J + 1)) hd r' hcomp rfl
          · exact ihr r' ⟨k, k1, by omega, hd, ho⟩ hcomp ((ho (J + 1) (Ne.symm ek)).trans e)
    intro r hr
    exact outer (r (J + 1)) (hr (J + 1) (by omega) (Nat.le_refl _)) r (fun k h1 h2 => hr k h1 (by omega)) rfl
/-- what a worker that has come to its send offers -/
def QOk (P : Program) (D : Dsc) : Prop := ∀ ρ s g w, Working P D ρ s g w → D.Q s →
  ∃ val z es n, stepG P false g w = .comm g #[scase D.c val z] true .send w es ∧ (∀ e ∈ es, OkEv D (Own ρ) e) ∧ QuitsIn P n (Conc.served g undef) ∧ Gv D.H (Own ρ) val w
structure Co (P : Program) (J : Nat) (D : Nat → Dsc) (F : View) (a : Goroutine) (O : Nat → Nat → Prop) (cl : Nat → Cls) (rk : Nat → Rk) (gs : Array Goroutine) (w : World) (t : Trace) : Prop where
  main : gs[0]? = some a
  size : gs.size = J + 1
  tr : Tr J w.heap.size D O cl t
  ap : Apartly J w.heap.size D O
  sees : Sees F w
  fo : ∀ k, 1 ≤ k → k ≤ J → cl k ≠ .got → ∀ b, O k b → F b = none
  fc : ∀ k, 1 ≤ k → k ≤ J → cl k ≠ .got → F (D k).c = none
  cc : ∀ k j, 1 ≤ k → k ≤ J → 1 ≤ j → j ≤ J → k ≠ j → (D k).c ≠ (D j).c
  wk : ∀ k, 1 ≤ k → k ≤ J → ∃ g, gs[k]? = some g ∧ Wst P (D k) (O k) (cl k) (rk k) g w
  qk : ∀ k, 1 ≤ k → k ≤ J → QOk P (D k)
  clt : ∀ k, 1 ≤ k → k ≤ J → (D k).c < w.heap.size
  oc : ∀ k j, 1 ≤ k → k ≤ J → 1 ≤ j → j ≤ J → ∀ b, O k b → b ≠ (D j).c
  io : w.os = (D 0).w0.os ∧ w.output = (D 0).w0.output
end Go.Proofs.YtgjhmbbbkkidlaaGreatDoor.sim
/-
  The company: a worker moves.
  Conditions: none; no program in sight.
-/
namespace Go.Proofs.YtgjhmbbbkkidlaaGreatDoor.sim
open Go
open Go.Conc
open Go.ConcN (PermW upd upd_same upd_ne get_map_set get_map_set_same)
def Wait (J : Nat) (D : Nat → Dsc) (cl : Nat → Cls) (a : Goroutine) : Prop :=
  a.status = .running ∨ ∃ a0 z k, 1 ≤ k ∧ k ≤ J ∧ cl k = .work ∧ a = parked a0 #[rcase (D k).c z] (.recv false)
section
variable {P : Program} {J : Nat} {D : Nat → Dsc} {F : View} {a : Goroutine} {O : Nat → Nat → Prop} {cl : Nat → Cls} {rk : Nat → Rk} {gs : Array Goroutine} {w : World} {t : Trace}
theorem Working.nochan {D : Dsc} {ρ : Rn} {s : Sit} {g : Goroutine} {w : World} (h : Working P D ρ s g w) {b : Nat} (o : Own ρ b) : NotChan w b := by
  obtain ⟨b0, _, r⟩ := o
  intro cap buf cl s t tm hch
  rcases h.wh.rng _ _ r with ⟨c, e1, fr, c', fr', h1, h2, h3⟩ | ⟨a, a', l, h1, h2, h3⟩ <;> rw [h2] at hch <;> cases hch
theorem Co.rank (h : Co P J D F a O cl rk gs w t) : Acc (Nearer P D J) rk := nearer_acc P D J rk fun k h1 h2 => by
  obtain ⟨g, _, hw⟩ := h.wk k h1 h2
  exact hw.acc
theorem Co.worker (h : Co P J D F a O cl rk gs w t) {i : Nat} {g : Goroutine} (hi : gs[i]? = some g) (i1 : 1 ≤ i) : i ≤ J ∧ Wst P (D i) (O i) (cl i) (rk i) g w := by
  have hlt := (Array.getElem?_eq_some_iff.1 hi).1
  have iJ : i ≤ J := by have := h.size; omega
  obtain ⟨g', hg', hw⟩ := h.wk i i1 iJ
  rw [hi] at hg'
  cases hg'
  exact ⟨iJ, hw⟩
theorem Co.awake (h : Co P J D F a O cl rk gs w t) (ha : Wait J D cl a) : ∀ g ∈ gs, Conc.awake g := by
  intro g hg
  obtain ⟨i, hi, rfl⟩ := Array.mem_iff_getElem.1 hg
  have hi' : gs[i]? = some gs[i] := Array.getElem?_eq_getElem hi
  rcases Nat.eq_zero_or_pos i with rfl | hpos
  · rw [h.main] at hi'
    have e := Option.some.inj hi'
    rcases ha with ha | ⟨a0, z, k, _, _, _, ha⟩
    · exact awake_of (.inl (e ▸ ha))
    · refine awake_of (.inr (.inl ?_))
      rw [← e, ha]
      rfl
  · exact awake_of ((h.worker hi' hpos).2.st.elim .inl fun x => .inr (.inr x))
theorem Co.others (h : Co P J D F a O cl rk gs w t) (ha : Wait J D cl a) {g g1 : Goroutine} {w1 : World} (hop : ∀ k, 1 ≤ k → k ≤ J → cl k = .work → w1.heap[(D k).c]? = w.heap[(D k).c]?) :
    ∀ (k : Nat) (x : Goroutine), gs[k]? = some x → woken P g g1 w1 x = x := by
  intro k x hx
  rcases Nat.eq_zero_or_pos k with rfl | hpos
  · rw [h.main] at hx
    cases hx
    rcases ha with ha | ⟨a0, z, k, k1, kJ, hk, ha⟩
    · exact woken_running ha
    · obtain ⟨gk, _, hw⟩ := h.wk k k1 kJ
      rw [hk] at hw
      obtain ⟨tm, hch⟩ := hw.ch0
      rw [ha]
      exact woken_recv_open _ _ ((hop k k1 kJ hk).trans hch)
  · have := (h.worker hx hpos).2.st
    unfold woken
    split
    · exact again_running _ this
    · rfl
theorem seen_lt {F : View} {b : Nat} {o : Obj} (h : Sees F w) (hf : F b = some o) : b < w.heap.size := (Array.getElem?_eq_some_iff.1 (h b o hf)).1
theorem sees_new {F : View} (h : Sees F w) {b : Nat} (l : w.heap.size ≤ b) : F b = none := by
  cases hf : F b with
  | none => rfl
  | some o => have := seen_lt h hf; omega
theorem ev_tou {D : Dsc} {O : Nat → Prop} {e : Event} (h : OkEv D O e) : (∀ x, (MemAct.ofEvent e).touch? = some x → TouW D O x) ∧ ∀ m, MemAct.ofEvent e = .mark m → Neutral m := by
  obtain ⟨l, wr, sy⟩ := e
  rcases h with ⟨e1, a, e2, h⟩ | ⟨e1, e2, b, e3, h⟩ | e1
  · dsimp only at e1 e2 h
    subst e1 e2
    refine ⟨fun x hx => ?_, fun m hm => by cases hm⟩
    cases hx
    rcases h with h | ⟨h1, h2, h3, _⟩
    · exact .inl h
    · exact .inr ⟨h1, a, rfl, h2, h3⟩
  · dsimp only at e1 e2 e3
    subst e1 e2 e3
    refine ⟨fun x hx => ?_, fun m hm => by cases hm⟩
    cases hx
    exact .inl h
  · dsimp only at e1
    subst e1
    refine ⟨fun x hx => (by cases hx), fun m hm => ?_⟩
    cases hm
    rfl
theorem ev_low {D : Dsc} {O : Nat → Prop} {N : Nat} {e : Event} (h : OkEv D O e) (ho : ∀ b, O b → b < N) (hB : D.B ≤ N) : (MemAct.ofEvent e).low N := by
  obtain ⟨l, wr, sy⟩ := e
  rcases h with ⟨e1, a, e2, h⟩ | ⟨e1, e2, b, e3, h⟩ | e1
  · dsimp only at e1 e2 h
    subst e1 e2
    show a.block < N
    rcases h with h | ⟨h1, h2, h3, h4⟩
    · exact ho _ h
    · omega
  · dsimp only at e1 e2 e3
    subst e1 e2 e3
    exact ho _ h
  · dsimp only at e1
    subst e1
    trivial
theorem co_work (hb : Base P) (h : Co P J D F a O cl rk gs w t) (ha : Wait J D cl a) {i : Nat} {g : Goroutine} (hi : gs[i]? = some g) (i1 : 1 ≤ i) {s : Sit} (hc : cl i = .work) (hrk : rk i = .w s) (nq : ¬ (D i).Q s) (sl : Option (Nat × Nat)) :
    ∃ gs' w' ops, runT P (crowd gs w sl) i = (.next (crowd gs' w' sl), ops) ∧ ∃ O' rk', Co P J D F a O' cl rk' gs' w' (t ++ ops) ∧ Nearer P D J rk' rk := by
  obtain ⟨iJ, hw⟩ := h.worker hi i1
  rw [hc, hrk] at hw
  obtain ⟨⟨ρ, hW, hO⟩, hf, hrun, tm, hch⟩ := hw
  obtain ⟨ρ1, s1, g1, w1, es, hs, hr1, hW1, hf1, hsub, hm, hev⟩ := work_step hb hW (h.ap.bn i i1 iJ) hf nq
  have i0 : (i == 0) = false := by simp; omega
  have hrunT := runT_crowd_go (P := P) (sl := sl) hi (by rw [i0]; exact hs)
  have more : ∀ b, O i b → Own ρ1 b := fun b o => hm.more b ((hO b).1 o)
  have fresh : ∀ b, Own ρ1 b → O i b ∨ w.heap.size ≤ b := fun b o => (hm.fresh b o).imp (hO b).2 id
  have same : ∀ b, b < w.heap.size → ¬ O i b → w1.heap[b]? = w.heap[b]? := fun b l no => hm.same b l fun o => no ((hO b).2 o)
  have lt1 : ∀ b, Own ρ1 b → b < w1.heap.size := fun b o => (hW1.lt o).2
  have chlt : ∀ k, 1 ≤ k → k ≤ J → cl k ≠ .got → w1.heap[(D k).c]? = w.heap[(D k).c]? := by
    intro k k1 kJ hk
    obtain ⟨gk, _, hwk⟩ := h.wk k k1 kJ
    have hch := hwk.ch hk
    obtain ⟨buf, s0, tm, hch⟩ := hch
    refine same _ (Array.getElem?_eq_some_iff.1 hch).1 fun o => ?_
    exact hW.nochan ((hO _).1 o) _ _ _ _ _ _ hch
  have oth := h.others (g := g) (g1 := g1) (w1 := w1) ha fun k k1 kJ hk => chlt k k1 kJ (by rw [hk]; simp)
  have hlt : i < gs.size := (Array.getElem?_eq_some_iff.1 hi).1
  have getk : ∀ k, k ≠ i → ((gs.map (woken P g g1 w1)).setIfInBounds i g1)[k]? = gs[k]? := by
    intro k hk
    rw [get_map_set _ _ _ _ (Ne.symm hk)]
    cases hx : gs[k]? with
    | none => rfl
    | some x => simp [oth k x hx]
  refine ⟨_, w1, _, hrunT, upd O i (Own ρ1), upd rk i (.w s1), ?_, i, i1, iJ, ?_, fun j hj => upd_ne _ _ hj⟩
  rotate_left
  · rw [upd_same, hrk]; exact .s nq hsub
  have hOi : upd O i (Own ρ1) i = Own ρ1 := upd_same _ _ _
  have hOk : ∀ k, k ≠ i → upd O i (Own ρ1) k = O k := fun k hk => upd_ne _ _ hk
  refine ⟨?_, ?_, ?_, ?_, ?_, ?_, h.fc, h.cc, ?_, h.qk, fun k k1 kJ => Nat.lt_of_lt_of_le (h.clt k k1 kJ) hm.size, ?_, ⟨hm.os.trans h.io.1, hm.output.trans h.io.2⟩⟩
  rotate_right
  · intro k j k1 kJ j1 jJ b o
    by_cases e : k = i
    · subst e
      rw [hOi] at o
      rcases fresh b o with o1 | l
      · exact h.oc k j k1 kJ j1 jJ b o1
      · rintro rfl
        have := h.clt j j1 jJ
        omega
    · rw [hOk k e] at o
      exact h.oc k j k1 kJ j1 jJ b o
  · rw [getk 0 (by omega)]; exact h.main
  · simp [h.size]
  · refine h.tr.appW h.ap i1 iJ hc hm.size more fresh ?_ ?_ ?_ ?_
    · intro op hop
      obtain ⟨e, he, rfl⟩ := Conc.mem_ofEvents hop
      rfl
    · intro op hop
      obtain ⟨e, he, rfl⟩ := Conc.mem_ofEvents hop
      exact (ev_tou (hev e he)).1
    · intro op hop
      obtain ⟨e, he, rfl⟩ := Conc.mem_ofEvents hop
      exact (ev_tou (hev e he)).2
    · intro op hop
      obtain ⟨e, he, rfl⟩ := Conc.mem_ofEvents hop
      exact ev_low (hev e he) lt1 (Nat.le_trans (h.ap.bn i i1 iJ) hm.size)
  · refine ⟨fun k j k1 kJ j1 jJ hkj b o o' => ?_, fun k j k1 kJ j1 jJ b o => ?_, fun k k1 kJ b o => ?_, h.ap.rlt, fun k k1 kJ => Nat.le_trans (h.ap.bn k k1 kJ) hm.size⟩
    · by_cases e : k = i
      · subst e
        rw [hOi] at o
        rw [hOk j (Ne.symm hkj)] at o'
        rcases fresh b o with o1 | l
        · exact h.ap.two k j k1 kJ j1 jJ hkj b o1 o'
        · have := h.ap.lt j j1 jJ b o'
          omega
      · rw [hOk k e] at o
        by_cases e2 : j = i
        · subst e2
          rw [hOi] at o'
          rcases fresh b o' with o1 | l
          · exact h.ap.two k j k1 kJ j1 jJ hkj b o o1
          · have := h.ap.lt k k1 kJ b o
            omega
        · rw [hOk j e2] at o'
          exact h.ap.two k j k1 kJ j1 jJ hkj b o o'
    · by_cases e : k = i
      · subst e
        rw [hOi] at o
        rcases fresh b o with o1 | l
        · exact h.ap.rb k j k1 kJ j1 jJ b o1
        · intro rb
          have := h.ap.rlt j j1 jJ b rb
          have := h.ap.bn j j1 jJ
          omega
      · rw [hOk k e] at o
        exact h.ap.rb k j k1 kJ j1 jJ b o
    · by_cases e : k = i
      · subst e
        rw [hOi] at o
        exact lt1 b o
      · rw [hOk k e] at o
        exact Nat.lt_of_lt_of_le (h.ap.lt k k1 kJ b o) hm.size
  · intro b o hf
    refine (same b (seen_lt h.sees hf) fun o' => ?_).trans (h.sees b o hf)
    rw [h.fo i i1 iJ (by rw [hc]; simp) b o'] at hf
    cases hf
  · intro k k1 kJ hk b o
    by_cases e : k = i
    · subst e
      rw [hOi] at o
      rcases fresh b o with o1 | l
      · exact h.fo k k1 kJ hk b o1
      · exact sees_new h.sees l
    · rw [hOk k e] at o
      exact h.fo k k1 kJ hk b o
  · intro k k1 kJ
    by_cases e : k = i
    · subst e
      refine ⟨g1, get_map_set_same _ _ _ hlt, ?_⟩
      rw [hOi, upd_same, hc]
      exact ⟨⟨ρ1, hW1, fun b => Iff.rfl⟩, hf1, hr1, tm, (chlt k k1 kJ (by rw [hc]; simp)).trans hch⟩
    · obtain ⟨gk, hgk, hwk⟩ := h.wk k k1 kJ
      refine ⟨gk, by rw [getk k e]; exact hgk, ?_⟩
      rw [hOk k e, upd_ne rk _ e]
      refine hwk.rely hm.size (fun _ b o _ => same b (h.ap.lt k k1 kJ b o) fun o' => h.ap.two k i k1 kJ i1 iJ e b o o') (fun _ b rb l _ => .inl (same b ?_ fun o' => h.ap.rb i k i1 iJ k1 kJ b o' rb)) fun hk => chlt k k1 kJ hk
      have := h.ap.bn k k1 kJ
      omega
end
end Go.Proofs.YtgjhmbbbkkidlaaGreatDoor.sim
/-
  The company: a worker leaves, sends, meets the starter.
  Conditions: none; no program in sight.
-/
namespace Go.Proofs.YtgjhmbbbkkidlaaGreatDoor.sim
open Go
open Go.Conc
open Go.ConcN (PermW upd upd_same upd_ne get_map_set get_map_set_same)
section
variable {P : Program} {J : Nat} {D : Nat → Dsc} {F : View} {a : Goroutine} {O : Nat → Nat → Prop} {cl : Nat → Cls} {rk : Nat → Rk} {gs : Array Goroutine} {w : World} {t : Trace}
theorem setChan_ne (w : World) (c cap : Nat) (buf : Array Value) (cd : Bool) (s r : Nat) (tm : Bool) {b : Nat} (h : b ≠ c) : (w.setChan c cap buf cd s r tm).heap[b]? = w.heap[b]? := by
  show (w.heap.setIfInBounds c _)[b]? = _
  rw [Array.getElem?_setIfInBounds_ne (Ne.symm h)]
theorem setChan_eq (w : World) (c cap : Nat) (buf : Array Value) (cd : Bool) (s r : Nat) (tm : Bool) {o : Obj} (h : w.heap[c]? = some o) : (w.setChan c cap buf cd s r tm).heap[c]? = some (.chan cap buf cd s r tm) := by
  show (w.heap.setIfInBounds c _)[c]? = _
  rw [Array.getElem?_setIfInBounds_self_of_lt (Array.getElem?_eq_some_iff.1 h).1]
theorem setChan_sz (w : World) (c cap : Nat) (buf : Array Value) (cd : Bool) (s r : Nat) (tm : Bool) : (w.setChan c cap buf cd s r tm).heap.size = w.heap.size := by
  show (w.heap.setIfInBounds c _).size = _
  simp
theorem Wst.chan {D : Dsc} {O : Nat → Prop} {cl : Cls} {rk : Rk} {g : Goroutine} {w : World} (h : Wst P D O cl rk g w) {c cap0 s0 r0 : Nat} {buf0 : Array Value} {cd0 tm0 : Bool} (hch : w.heap[c]? = some (.chan cap0 buf0 cd0 s0 r0 tm0)) (hne : cl ≠ .got → D.c ≠ c)
    (cap : Nat) (buf : Array Value) (cd : Bool) (s r : Nat) (tm : Bool) : Wst P D O cl rk g (w.setChan c cap buf cd s r tm) := by
  have ne : ∀ b, NotChan w b → b ≠ c := by
    rintro b nc rfl
    exact nc _ _ _ _ _ _ hch
  exact h.rely (Nat.le_of_eq (setChan_sz ..).symm) (fun _ b _ nc => setChan_ne _ _ _ _ _ _ _ _ (ne b nc)) (fun _ b _ _ nc => .inl (setChan_ne _ _ _ _ _ _ _ _ (ne b nc))) fun hg => setChan_ne _ _ _ _ _ _ _ _ (hne hg)
theorem upd_self {α : Type} (f : Nat → α) (i : Nat) : upd f i (f i) = f := by
  funext k
  by_cases e : k = i
  · subst e; exact upd_same _ _ _
  · exact upd_ne _ _ e
theorem set_ne {gs : Array Goroutine} {i k : Nat} {x : Goroutine} (h : k ≠ i) : (gs.setIfInBounds i x)[k]? = gs[k]? := Array.getElem?_setIfInBounds_ne (Ne.symm h)
theorem set_eq {gs : Array Goroutine} {i : Nat} {x g : Goroutine} (h : gs[i]? = some g) : (gs.setIfInBounds i x)[i]? = some x := Array.getElem?_setIfInBounds_self_of_lt (Array.getElem?_eq_some_iff.1 h).1
/-- a goroutine that has been started enters its function -/
theorem co_born (h : Co P J D F a O cl rk gs w t) (ha : Wait J D cl a) {i : Nat} {g : Goroutine} (hi : gs[i]? = some g) (i1 : 1 ≤ i) {s : Sit} (hc : cl i = .work) (hrk : rk i = .b s) (sl : Option (Nat × Nat)) :
    ∃ gs' w' ops, runT P (crowd gs w sl) i = (.next (crowd gs' w' sl), ops) ∧ ∃ O' rk', Co P J D F a O' cl rk' gs' w' (t ++ ops) ∧ Nearer P D J rk' rk := by
  obtain ⟨iJ, hw⟩ := h.worker hi i1
  have i0 : (i == 0) = false := by simp; omega
  rw [hc, hrk] at hw
  obtain ⟨⟨g', hst, hg', hW⟩, hf, hg, hch⟩ := hw
  have hrunT := runT_crowd_go (P := P) (sl := sl) hi (by rw [i0]; exact hst w)
  have oth := h.others (g := g) (g1 := g') (w1 := w) ha fun k k1 kJ hk => rfl
  have getk : ∀ k, k ≠ i → ((gs.map (woken P g g' w)).setIfInBounds i g')[k]? = gs[k]? := by
    intro k hk
    rw [get_map_set _ _ _ _ (Ne.symm hk)]
    cases hx : gs[k]? with
    | none => rfl
    | some x => simp [oth k x hx]
  have hlt : i < gs.size := (Array.getElem?_eq_some_iff.1 hi).1
  refine ⟨_, w, _, hrunT, O, upd rk i (.w s), ?_, i, i1, iJ, ?_, fun j hj => upd_ne _ _ hj⟩
  rotate_left
  · rw [upd_same, hrk]; exact .b s
  rw [show MemOp.ofEvents i g.frame.fn g.frame.place #[] = #[] from rfl, Array.append_empty]
  refine ⟨?_, ?_, h.tr, h.ap, h.sees, h.fo, h.fc, h.cc, ?_, h.qk, h.clt, h.oc, h.io⟩
  · rw [getk 0 (by omega)]; exact h.main
  · simp [h.size]
  · intro k k1 kJ
    by_cases e : k = i
    · subst e
      refine ⟨g', get_map_set_same _ _ _ hlt, ?_⟩
      rw [upd_same, hc]
      exact ⟨hW, hf, hg', hch⟩
    · obtain ⟨gk, hgk, hwk⟩ := h.wk k k1 kJ
      exact ⟨gk, by rw [getk k e]; exact hgk, by rw [upd_ne rk _ e]; exact hwk⟩
/-- a goroutine that only leaves takes a step -/
theorem co_quit (h : Co P J D F a O cl rk gs w t) (ha : Wait J D cl a) {i : Nat} {g : Goroutine} (hi : gs[i]? = some g) (i1 : 1 ≤ i) (hg : g.status = .running) {n : Nat} (hrk : rk i = .o n) (sl : Option (Nat × Nat)) :
    ∃ gs' w' ops, runT P (crowd gs w sl) i = (.next (crowd gs' w' sl), ops) ∧ ∃ O' rk', Co P J D F a O' cl rk' gs' w' (t ++ ops) ∧ Nearer P D J rk' rk := by
  obtain ⟨iJ, hw⟩ := h.worker hi i1
  have i0 : (i == 0) = false := by simp; omega
  have hq : QuitsIn P n g := by
    rw [hrk] at hw
    cases hc : cl i <;> rw [hc] at hw
    · exact hw.elim
    · exact hw.1
    · exact hw
  cases n with
  | zero => have hq : g.status = .finished := hq
            rw [hg] at hq; cases hq
  | succ m =>
    rcases hq with hq | ⟨_, g', hst, hq⟩
    · rw [hg] at hq; cases hq
    have hrunT := runT_crowd_go (P := P) (sl := sl) hi (by rw [i0]; exact hst w)
    have oth := h.others (g := g) (g1 := g') (w1 := w) ha fun k k1 kJ hk => rfl
    have getk : ∀ k, k ≠ i → ((gs.map (woken P g g' w)).setIfInBounds i g')[k]? = gs[k]? := by
      intro k hk
      rw [get_map_set _ _ _ _ (Ne.symm hk)]
      cases hx : gs[k]? with
      | none => rfl
      | some x => simp [oth k x hx]
    have hlt : i < gs.size := (Array.getElem?_eq_some_iff.1 hi).1
    refine ⟨_, w, _, hrunT, O, upd rk i (.o m), ?_, i, i1, iJ, ?_, fun j hj => upd_ne _ _ hj⟩
    rotate_left
    · rw [upd_same, hrk]; exact .n (Nat.lt_succ_self _)
    rw [show MemOp.ofEvents i g.frame.fn g.frame.place #[] = #[] from rfl, Array.append_empty]
    refine ⟨?_, ?_, h.tr, h.ap, h.sees, h.fo, h.fc, h.cc, ?_, h.qk, h.clt, h.oc, h.io⟩
    · rw [getk 0 (by omega)]; exact h.main
    · simp [h.size]
    · intro k k1 kJ
      by_cases e : k = i
      · subst e
        refine ⟨g', get_map_set_same _ _ _ hlt, ?_⟩
        rw [upd_same]
        rw [hrk] at hw
        cases hc : cl k <;> rw [hc] at hw
        · exact hw.elim
        · exact ⟨hq, hw.2⟩
        · exact hq
      · obtain ⟨gk, hgk, hwk⟩ := h.wk k k1 kJ
        exact ⟨gk, by rw [getk k e]; exact hgk, by rw [upd_ne rk _ e]; exact hwk⟩
theorem no_offers (h : Co P J D F a O cl rk gs w t) {i : Nat} {c : Nat} {send : Bool} (h0 : offersAt a c send = []) : partners (gs.setIfInBounds i ph) c send = [] := by
  refine partners_nil fun j x hx => ?_
  rcases getElem?_stand gs i j x hx with ⟨_, rfl⟩ | ⟨_, hx⟩
  · exact offersAt_ph _ _
  · rcases Nat.eq_zero_or_pos j with rfl | hpos
    · rw [h.main] at hx
      cases hx
      exact h0
    · refine offersAt_of_not_blocked (fun e => ?_) _ _
      rcases (h.worker hx hpos).2.st with q | q <;> rw [e] at q <;> cases q
theorem Gv.mono {H : Array Value} {O O' : Nat → Prop} {val : Value} {w w' : World} (h : Gv H O val w) (ho : ∀ b, O b → O' b) (hw : ∀ b, NotChan w b → w'.heap[b]? = w.heap[b]?) : Gv H O' val w' := by
  obtain ⟨b, cp, c, e, fr, h1, h2, h3, h4⟩ := h
  exact ⟨b, cp, c, e, fr, h1, ho b h2, (hw b (by intro _ _ _ _ _ _ q; rw [h3] at q; cases q)).trans h3, h4⟩
/-- the trace behind a worker's last operations -/
theorem sent_tr (h : Co P J D F a O cl rk gs w t) {i : Nat} (i1 : 1 ≤ i) (iJ : i ≤ J) (hc : cl i = .work) {es : Array Event} (hev : ∀ e ∈ es, OkEv (D i) (O i) e) {fn : FuncId} {pos : String} : Tr J w.heap.size D O cl (t ++ MemOp.ofEvents i fn pos es) := by
  have := h.tr.appW h.ap i1 iJ hc (O1 := O i) (u := MemOp.ofEvents i fn pos es) (Nat.le_refl _) (fun _ o => o) (fun _ o => .inl o) ?_ ?_ ?_ ?_
  · rw [upd_self] at this
    exact this
  · intro op hop
    obtain ⟨e, he, rfl⟩ := Conc.mem_ofEvents hop
    rfl
  · intro op hop
    obtain ⟨e, he, rfl⟩ := Conc.mem_ofEvents hop
    exact (ev_tou (hev e he)).1
  · intro op hop
    obtain ⟨e, he, rfl⟩ := Conc.mem_ofEvents hop
    exact (ev_tou (hev e he)).2
  · intro op hop
    obtain ⟨e, he, rfl⟩ := Conc.mem_ofEvents hop
    exact ev_low (hev e he) (h.ap.lt i i1 iJ) (h.ap.bn i i1 iJ)
theorem OkEv.mono {D : Dsc} {O O' : Nat → Prop} {e : Event} (ho : ∀ b, O b → O' b) (h : OkEv D O e) : OkEv D O' e := by
  rcases h with ⟨e1, a, e2, h⟩ | ⟨e1, e2, b, e3, h⟩ | e1
  · exact .inl ⟨e1, a, e2, h.imp (ho _) id⟩
  · exact .inr (.inl ⟨e1, e2, b, e3, ho _ h⟩)
  · exact .inr (.inr e1)
/-- a worker sends: there is room -/
theorem co_room {i : Nat} (hq : QOk P (D i)) (h : Co P J D F a O cl rk gs w t) {g : Goroutine} (hi : gs[i]? = some g) (i1 : 1 ≤ i) {s : Sit} (hc : cl i = .work) (hrk : rk i = .w s) (q : (D i).Q s) (h0 : offersAt a (D i).c false = []) (sl : Option (Nat × Nat)) :
    ∃ gs' w' ops, runT P (crowd gs w sl) i = (.next (crowd gs' w' sl), ops) ∧ ∃ p rk', Co P J D F a O (upd cl i (.sent p)) rk' gs' w' (t ++ ops) ∧ Nearer P D J rk' rk := by
  obtain ⟨iJ, hw⟩ := h.worker hi i1
  have hc' := hc
  rw [hc, hrk] at hw
  obtain ⟨⟨ρ, hW, hO⟩, hf, hrun, tm, hch⟩ := hw
  obtain ⟨val, z, es, n, hs, hev, hqt, hgv⟩ := hq ρ s g w hW q
  have i0 : (i == 0) = false := by simp; omega
  have hrunT := crowd_send_room (P := P) (sl := sl) hi (by rw [i0]; exact hs) hch (by simp) (no_offers h h0)
  have htr := sent_tr h i1 iJ hc (fun e he => (hev e he).mono fun b o => (hO b).2 o) (fn := g.frame.fn) (pos := g.frame.place)
  have hcl : (D i).c < w.heap.size := (Array.getElem?_eq_some_iff.1 hch).1
  refine ⟨_, _, _, hrunT, (t ++ MemOp.ofEvents i g.frame.fn g.frame.place es).size, upd rk i (.o n), ?_, i, i1, iJ, ?_, fun j hj => upd_ne _ _ hj⟩
  rotate_left
  · rw [upd_same, hrk]; exact .q n s
  rw [← Array.append_assoc]
  have hcls : ∀ p k, upd cl i (.sent p) k ≠ .got → cl k ≠ .got := fun p k hk => by
    by_cases e : k = i
    · subst e; rw [hc]; simp
    · rw [upd_ne cl _ e] at hk; exact hk
  refine ⟨?_, ?_, ?_, ?_, ?_, fun k k1 kJ hk => h.fo k k1 kJ (hcls _ k hk), fun k k1 kJ hk => ?_, h.cc, ?_, h.qk, fun k k1 kJ => (by rw [setChan_sz]; exact h.clt k k1 kJ), h.oc, h.io⟩
  · rw [set_ne (by omega)]; exact h.main
  · simp [h.size]
  · rw [setChan_sz]
    refine Tr.sentNow (Tr.appN htr (Nat.le_refl _) ?_ ?_ ?_ ?_) ⟨rfl, rfl⟩ rfl
    · intro op hop; simp at hop; rcases hop with rfl | rfl <;> exact iJ
    · intro op hop; simp at hop; rcases hop with rfl | rfl <;> rfl
    · intro op hop m e; simp at hop; rcases hop with rfl | rfl <;> cases e
    · intro op hop; simp at hop; rcases hop with rfl | rfl <;> exact hcl
  · rw [setChan_sz]; exact h.ap
  · intro b o hf
    refine (setChan_ne _ _ _ _ _ _ _ _ ?_).trans (h.sees b o hf)
    rintro rfl
    rw [h.fc i i1 iJ (by rw [hc]; simp)] at hf
    cases hf
  · refine h.fc k k1 kJ fun e => hk ?_
    by_cases ek : k = i
    · subst ek; rw [hc] at e; cases e
    · rw [upd_ne cl _ ek]; exact e
  · intro k k1 kJ
    by_cases e : k = i
    · subst e
      refine ⟨_, set_eq hi, ?_⟩
      rw [upd_same, upd_same]
      refine ⟨hqt, val, tm, setChan_eq _ _ _ _ _ _ _ _ hch, hgv.mono (fun b o => (hO b).2 o) fun b nc => setChan_ne _ _ _ _ _ _ _ _ ?_⟩
      rintro rfl
      exact nc _ _ _ _ _ _ hch
    · obtain ⟨gk, hgk, hwk⟩ := h.wk k k1 kJ
      refine ⟨gk, by rw [set_ne e]; exact hgk, ?_⟩
      rw [upd_ne rk _ e, upd_ne cl _ e]
      exact hwk.chan hch (fun _ => h.cc k i k1 kJ i1 iJ e) _ _ _ _ _ _
/-- a worker sends: the starter waits for it -/
theorem co_meets {i : Nat} (hq : QOk P (D i)) {a0 : Goroutine} {z0 : Value} (h : Co P J D F (parked a0 #[rcase (D i).c z0] (.recv false)) O cl rk gs w t) {g : Goroutine} (hi : gs[i]? = some g) (i1 : 1 ≤ i) {s : Sit} (hc : cl i = .work) (hrk : rk i = .w s) (q : (D i).Q s) (sl : Option (Nat × Nat)) :
    ∃ gs' w' ops, runT P (crowd gs w sl) i = (.next (crowd gs' w' sl), ops) ∧ ∃ val rk' tm, Co P J D F (Conc.served a0 val) O (upd cl i .got) rk' gs' w' (t ++ ops) ∧ w'.heap[(D i).c]? = some (.chan 1 #[] false 1 1 tm) ∧ Gv (D i).H (O i) val w' := by
  obtain ⟨iJ, hw⟩ := h.worker hi i1
  rw [hc, hrk] at hw
  obtain ⟨⟨ρ, hW, hO⟩, hf, hrun, tm, hch⟩ := hw
  obtain ⟨val, z, es, n, hs, hev, hqt, hgv⟩ := hq ρ s g w hW q
  have i0 : (i == 0) = false := by simp; omega
  have hne : (0 : Nat) ≠ i := by omega
  have hp : partners (gs.setIfInBounds i ph) (D i).c false = [(0, 0)] := by
    rw [partners_one (stand_get hne h.main)]
    · rw [offersAt_parked_recv, if_pos rfl]
      rfl
    · intro k x hk hx
      rcases getElem?_stand gs i k x hx with ⟨_, rfl⟩ | ⟨_, hx⟩
      · exact offersAt_ph _ _
      · refine offersAt_of_not_blocked (fun e => ?_) _ _
        rcases (h.worker hx (by omega)).2.st with q | q <;> rw [e] at q <;> cases q
  have hrunT := crowd_send_meets (P := P) (sl := sl) hi (by rw [i0]; exact hs) hch hne h.main hp
  have htr := sent_tr h i1 iJ hc (fun e he => (hev e he).mono fun b o => (hO b).2 o) (fn := g.frame.fn) (pos := g.frame.place)
  have hcl : (D i).c < w.heap.size := (Array.getElem?_eq_some_iff.1 hch).1
  refine ⟨_, _, _, hrunT, val, upd rk i (.o n), tm, ?_, setChan_eq _ _ _ _ _ _ _ _ hch, hgv.mono (fun b o => (hO b).2 o) fun b nc => setChan_ne _ _ _ _ _ _ _ _ ?_⟩
  rotate_left
  · rintro rfl
    exact nc _ _ _ _ _ _ hch
  rw [← Array.append_assoc]
  have hcls : ∀ k, upd cl i .got k ≠ .got → cl k ≠ .got := fun k hk => by
    by_cases e : k = i
    · subst e; rw [hc]; simp
    · rw [upd_ne cl _ e] at hk; exact hk
  refine ⟨?_, ?_, ?_, ?_, ?_, fun k k1 kJ hk => h.fo k k1 kJ (hcls k hk), fun k k1 kJ hk => ?_, h.cc, ?_, h.qk, fun k k1 kJ => (by rw [setChan_sz]; exact h.clt k k1 kJ), h.oc, h.io⟩
  · rw [set_ne hne, set_eq h.main]
    rfl
  · simp [h.size]
  · rw [setChan_sz]
    refine Tr.met (k := i) (Tr.appN htr (Nat.le_refl _) ?_ ?_ ?_ ?_) ?_ ⟨rfl, rfl⟩ ⟨rfl, rfl⟩
    · intro op hop; simp at hop; rcases hop with rfl | rfl | rfl | rfl <;> first | exact iJ | exact Nat.zero_le _
    · intro op hop; simp at hop; rcases hop with rfl | rfl | rfl | rfl <;> rfl
    · intro op hop m e; simp at hop; rcases hop with rfl | rfl | rfl | rfl <;> cases e
    · intro op hop; simp at hop; rcases hop with rfl | rfl | rfl | rfl <;> exact hcl
    · intro op hop; simp at hop; rcases hop with rfl | rfl | rfl | rfl <;> rfl
  · rw [setChan_sz]; exact h.ap
  · intro b o hf
    refine (setChan_ne _ _ _ _ _ _ _ _ ?_).trans (h.sees b o hf)
    rintro rfl
    rw [h.fc i i1 iJ (by rw [hc]; simp)] at hf
    cases hf
  · refine h.fc k k1 kJ fun e => hk ?_
    by_cases ek : k = i
    · subst ek; exact upd_same _ _ _
    · rw [upd_ne cl _ ek]; exact e
  · intro k k1 kJ
    by_cases e : k = i
    · subst e
      refine ⟨_, set_eq (g := g) (by rw [set_ne (Ne.symm hne)]; exact hi), ?_⟩
      rw [upd_same, upd_same]
      exact hqt
    · obtain ⟨gk, hgk, hwk⟩ := h.wk k k1 kJ
      refine ⟨gk, by rw [set_ne e, set_ne (by omega)]; exact hgk, ?_⟩
      rw [upd_ne rk _ e, upd_ne cl _ e]
      exact hwk.chan hch (fun _ => h.cc k i k1 kJ i1 iJ e) _ _ _ _ _ _
end
end Go.Proofs.YtgjhmbbbkkidlaaGreatDoor.sim
/-
  The company: whoever moves, until the starter does.
  Conditions: none; no program in sight.
-/
namespace Go.Proofs.YtgjhmbbbkkidlaaGreatDoor.sim
open Go
open Go.Conc
open Go.ConcN (PermW upd upd_same upd_ne get_map_set get_map_set_same)
section
variable {P : Program} {J : Nat} {D : Nat → Dsc} {F : View} {a : Goroutine} {O : Nat → Nat → Prop} {cl : Nat → Cls} {rk : Nat → Rk} {gs : Array Goroutine} {w : World} {t : Trace}
theorem co_at (h : Co P J D F a O cl rk gs w t) (d : Nat) : Co P J D F a O cl rk gs (w.at d) t :=
  ⟨h.main, h.size, h.tr, h.ap, h.sees, h.fo, h.fc, h.cc, fun k k1 kJ => (h.wk k k1 kJ).elim fun g hg => ⟨g, hg.1, hg.2.rely (Nat.le_refl _) (fun _ _ _ _ => rfl) (fun _ _ _ _ _ => .inl rfl) fun _ => rfl⟩, h.qk, h.clt, h.oc, h.io⟩
def SameGot (cl cl' : Nat → Cls) : Prop := ∀ k, cl' k = .got ↔ cl k = .got
/-- what follows when the starter that waited has been served -/
def Srv (P : Program) (J : Nat) (D : Nat → Dsc) (F : View) (a : Goroutine) (cl : Nat → Cls) (gs' : Array Goroutine) (w' : World) (t' : Trace) : Prop :=
  ∃ i a0 z val O rk' cl' tm, a = parked a0 #[rcase (D i).c z] (.recv false) ∧ 1 ≤ i ∧ i ≤ J ∧ cl i = .work ∧ Co P J D F (Conc.served a0 val) O cl' rk' gs' w' t' ∧ (∀ k, cl' k = .got ↔ (cl k = .got ∨ k = i)) ∧ w'.heap[(D i).c]? = some (.chan 1 #[] false 1 1 tm) ∧ Gv (D i).H (O i) val w' ∧ ∀ b, O i b → F b = none
theorem co_any (hb : Base P) (h : Co P J D F a O cl rk gs w t) (ha : Wait J D cl a) {i : Nat} {g : Goroutine} (hi : gs[i]? = some g) (i1 : 1 ≤ i) (hg : g.status = .running) (sl : Option (Nat × Nat)) :
    ∃ gs' w' ops, runT P (crowd gs w sl) i = (.next (crowd gs' w' sl), ops) ∧
      ((∃ O' cl' rk', Co P J D F a O' cl' rk' gs' w' (t ++ ops) ∧ Nearer P D J rk' rk ∧ SameGot cl cl' ∧ Wait J D cl' a) ∨ Srv P J D F a cl gs' w' (t ++ ops)) := by
  obtain ⟨iJ, hw⟩ := h.worker hi i1
  have quit : ∀ n, rk i = .o n → _ := fun n hn => co_quit h ha hi i1 hg hn sl
  cases hrk : rk i with
  | o n =>
    obtain ⟨gs', w', ops, h1, O', rk', h2, h3⟩ := co_quit h ha hi i1 hg hrk sl
    exact ⟨gs', w', ops, h1, .inl ⟨O', cl, rk', h2, h3, fun _ => Iff.rfl, ha⟩⟩
  | b s =>
    have hc : cl i = .work := by
      rw [hrk] at hw
      cases hc : cl i <;> rw [hc] at hw <;> first | rfl | exact hw.elim
    obtain ⟨gs', w', ops, h1, O', rk', h2, h3⟩ := co_born h ha hi i1 hc hrk sl
    exact ⟨gs', w', ops, h1, .inl ⟨O', cl, rk', h2, h3, fun _ => Iff.rfl, ha⟩⟩
  | w s =>
    have hc : cl i = .work := by
      rw [hrk] at hw
      cases hc : cl i <;> rw [hc] at hw <;> first | rfl | exact hw.elim
    by_cases q : (D i).Q s
    · have room : offersAt a (D i).c false = [] → Wait J D (upd cl i (.sent 0)) a → _ := fun h0 _ => co_room (h.qk i i1 iJ) h hi i1 hc hrk q h0 sl
      have got : ∀ p, SameGot cl (upd cl i (.sent p)) := fun p k => by
        by_cases e : k = i
        · subst e; rw [upd_same, hc]; simp
        · rw [upd_ne cl _ e]
      rcases ha with ha | ⟨a0, z, k, k1, kJ, hk, ha⟩
      · obtain ⟨gs', w', ops, h1, p, rk', h2, h3⟩ := co_room (h.qk i i1 iJ) h hi i1 hc hrk q (offersAt_of_not_blocked (by rw [ha]; simp) _ _) sl
        exact ⟨gs', w', ops, h1, .inl ⟨O, _, rk', h2, h3, got p, .inl ha⟩⟩
      · by_cases e : k = i
        · subst e
          subst ha
          obtain ⟨gs', w', ops, h1, val, rk', tm, h2, h3, h4⟩ := co_meets (h.qk k i1 iJ) h hi i1 hc hrk q sl
          refine ⟨gs', w', ops, h1, .inr ⟨k, a0, z, val, O, rk', _, tm, rfl, k1, kJ, hk, h2, fun j => ?_, h3, h4, h.fo k k1 kJ (by rw [hk]; simp)⟩⟩
          by_cases e : j = k
          · subst e; rw [upd_same]; simp
          · rw [upd_ne cl _ e]; simp [e]
        · have h0 : offersAt a (D i).c false = [] := by
            rw [ha, offersAt_parked_recv, if_neg (h.cc k i k1 kJ i1 iJ e)]
          obtain ⟨gs', w', ops, h1, p, rk', h2, h3⟩ := co_room (h.qk i i1 iJ) h hi i1 hc hrk q h0 sl
          exact ⟨gs', w', ops, h1, .inl ⟨O, _, rk', h2, h3, got p, .inr ⟨a0, z, k, k1, kJ, by rw [upd_ne cl _ e]; exact hk, ha⟩⟩⟩
    · obtain ⟨gs', w', ops, h1, O', rk', h2, h3⟩ := co_work hb h ha hi i1 hc hrk q sl
      exact ⟨gs', w', ops, h1, .inl ⟨O', cl, rk', h2, h3, fun _ => Iff.rfl, ha⟩⟩
/-- the machine comes to a state -/
def Reach (P : Program) (m : Machine) (t : Trace) (Goal : Machine → Trace → Prop) : Prop := ∃ N m' t', runNT P N m t = (.next m', t') ∧ Goal m' t'
theorem Reach.now {m : Machine} {Goal : Machine → Trace → Prop} (h : Goal m t) : Reach P m t Goal := ⟨0, m, t, rfl, h⟩
theorem Reach.step {m m1 : Machine} {ops : Array MemOp} {Goal : Machine → Trace → Prop} (h : stepT P m = (.next m1, ops)) (g : Reach P m1 (t ++ ops) Goal) : Reach P m t Goal := by
  obtain ⟨N, m', t', h1, h2⟩ := g
  exact ⟨N + 1, m', t', by rw [runNT_succ_next h]; exact h1, h2⟩
theorem Reach.trans {m : Machine} {Goal Goal' : Machine → Trace → Prop} (h : Reach P m t Goal) (g : ∀ m' t', Goal m' t' → Reach P m' t' Goal') : Reach P m t Goal' := by
  obtain ⟨N, m', t', h1, h2⟩ := h
  obtain ⟨N2, m2, t2, h3, h4⟩ := g m' t' h2
  exact ⟨N + N2, m2, t2, by rw [runNT_add, h1]; exact h3, h4⟩
theorem SameGot.trans {c1 c2 c3 : Nat → Cls} (h : SameGot c1 c2) (g : SameGot c2 c3) : SameGot c1 c3 := fun k => (g k).trans (h k)
/-- THE STARTER RUNS: its next step comes, whatever the others do before -/
theorem advance (hb : Base P) {Goal : Machine → Trace → Prop} (ha : a.status = .running) {cl0 : Nat → Cls}
    (hm : ∀ O cl rk gs w t sl, Co P J D F a O cl rk gs w t → SameGot cl0 cl → ∃ m' ops, runT P (crowd gs w sl) 0 = (.next m', ops) ∧ Reach P m' (t ++ ops) Goal) :
    ∀ {rk}, Acc (Nearer P D J) rk → ∀ {O cl gs w t} (sl : Option (Nat × Nat)), Co P J D F a O cl rk gs w t → SameGot cl0 cl → Reach P (crowd gs w sl) t Goal := by
  intro rk hacc
  induction hacc with
  | intro rk _ ih =>
    intro O cl gs w t sl h hg
    obtain ⟨i, g, d, sl', hi, hrun, hst⟩ := crowd_pick (P := P) (w := w) (sl := sl) (h.awake (.inl ha)) ⟨0, a, h.main, ha⟩
    have h' := co_at h d
    rcases Nat.eq_zero_or_pos i with rfl | hpos
    · obtain ⟨m', ops, h1, h2⟩ := hm O cl rk gs (w.at d) t sl' h' hg
      exact .step (hst.trans h1) h2
    · obtain ⟨gs', w', ops, h1, h2⟩ := co_any hb h' (.inl ha) hi hpos hrun sl'
      rcases h2 with ⟨O', cl', rk', h3, h4, h5, _⟩ | ⟨j, a0, z, _, _, _, _, _, he, _⟩
      · exact .step (hst.trans h1) (ih rk' h4 sl' h3 (hg.trans h5))
      · rw [he] at ha
        cases ha
/-- THE STARTER WAITS: it is served -/
theorem await (hb : Base P) {Goal : Machine → Trace → Prop} {k : Nat} (k1 : 1 ≤ k) (kJ : k ≤ J) {a0 : Goroutine} {z : Value} {cl0 : Nat → Cls}
    (hm : ∀ O cl rk gs w t sl val tm, Co P J D F (Conc.served a0 val) O cl rk gs w t → (∀ j, cl j = .got ↔ (cl0 j = .got ∨ j = k)) → w.heap[(D k).c]? = some (.chan 1 #[] false 1 1 tm) → Gv (D k).H (O k) val w → (∀ b, O k b → F b = none) → Reach P (crowd gs w sl) t Goal) :
    ∀ {rk}, Acc (Nearer P D J) rk → ∀ {O cl gs w t} (sl : Option (Nat × Nat)), Co P J D F (parked a0 #[rcase (D k).c z] (.recv false)) O cl rk gs w t → cl k = .work → SameGot cl0 cl → Reach P (crowd gs w sl) t Goal := by
  intro rk hacc
  induction hacc with
  | intro rk _ ih =>
    intro O cl gs w t sl h hk hg
    have ha : Wait J D cl (parked a0 #[rcase (D k).c z] (.recv false)) := .inr ⟨a0, z, k, k1, kJ, hk, rfl⟩
    obtain ⟨gk, hgk, hwk⟩ := h.wk k k1 kJ
    have hgr : gk.status = .running := by
      rw [hk] at hwk
      cases hr : rk k <;> rw [hr] at hwk <;> first | exact hwk.2.2.1 | exact hwk.elim
    obtain ⟨i, g, d, sl', hi, hrun, hst⟩ := crowd_pick (P := P) (w := w) (sl := sl) (h.awake ha) ⟨k, gk, hgk, hgr⟩
    have h' := co_at h d
    rcases Nat.eq_zero_or_pos i with rfl | hpos
    · rw [h.main] at hi
      cases hi
      cases hrun
    · obtain ⟨gs', w', ops, h1, h2⟩ := co_any hb h' ha hi hpos hrun sl'
      rcases h2 with ⟨O', cl', rk', h3, h4, h5, h6⟩ | ⟨j, a1, z1, val, O1, rk1, cl1, tm, he, j1, jJ, hj, h3, h4, h5, h6, h7⟩
      · refine .step (hst.trans h1) (ih rk' h4 sl' h3 ?_ (hg.trans h5))
        rcases h6 with h6 | ⟨a2, z2, k2, k21, k2J, hk2, he⟩
        · cases h6
        · unfold parked rcase at he
          have e1 : (D k).c = (D k2).c := by
            injection he with _ _ _ _ e
            simp at e
            exact e.1
          have e2 : k = k2 := by
            apply Classical.byContradiction
            intro ne
            exact h.cc k k2 k1 kJ k21 k2J ne e1
          rw [e2]; exact hk2
      · have e0 : a0.frame = a1.frame ∧ a0.callers = a1.callers ∧ a0.dying = a1.dying ∧ (D k).c = (D j).c := by
          unfold parked rcase at he
          injection he with e1 e2 _ e4 e
          simp at e
          exact ⟨e1, e2, e4, e.1⟩
        have e2 : k = j := by
          apply Classical.byContradiction
          intro ne
          exact h.cc k j k1 kJ j1 jJ ne e0.2.2.2
        subst e2
        have es : Conc.served a0 val = Conc.served a1 val := by
          unfold Conc.served
          rw [e0.1, e0.2.1, e0.2.2.1]
        refine .step (hst.trans h1) (hm O1 cl1 rk1 gs' w' _ sl' val tm (by rw [es]; exact h3) (fun x => ?_) h5 h6 h7)
        rw [h4 x, hg x]
end
end Go.Proofs.YtgjhmbbbkkidlaaGreatDoor.sim
/-
  The company: the starter's own steps, its go statement, its sends and receives.
  Conditions: none; no program in sight.
-/
namespace Go.Proofs.YtgjhmbbbkkidlaaGreatDoor.sim
open Go
open Go.Conc
open Go.ConcN (PermW upd upd_same upd_ne get_map_set get_map_set_same)
section
variable {P : Program} {J : Nat} {D : Nat → Dsc} {F F' : View} {a a' : Goroutine} {O : Nat → Nat → Prop} {cl cl0 : Nat → Cls} {rk : Nat → Rk} {gs : Array Goroutine} {w w' : World} {t : Trace} {sl : Option (Nat × Nat)} {es : Array Event}
def At (P : Program) (J : Nat) (D : Nat → Dsc) (F : View) (a : Goroutine) (cl0 : Nat → Cls) (m : Machine) (t : Trace) : Prop :=
  ∃ O cl rk gs w sl, m = crowd gs w sl ∧ Co P J D F a O cl rk gs w t ∧ SameGot cl0 cl
theorem Reach.imp {m : Machine} {G1 G2 : Machine → Trace → Prop} (h : Reach P m t G1) (g : ∀ m' t', G1 m' t' → G2 m' t') : Reach P m t G2 := h.trans fun m' t' x => .now (g m' t' x)
/-- an access of the starter's -/
def EvM (J : Nat) (D : Nat → Dsc) (F : View) (w w' : World) (e : Event) : Prop :=
  (e.sync = false ∧ ∃ a, e.loc = .cell a ∧ a.block < w'.heap.size ∧ ((F a.block).isSome = true ∨ w.heap.size ≤ a.block) ∧ (e.write = true → ∀ k, 1 ≤ k → k ≤ J → ¬ ((D k).RO a ∧ (D k).RB a.block))) ∨
  (e.write = false ∧ e.sync = false ∧ ∃ b, e.loc = .obj b ∧ b < w'.heap.size ∧ ((F b).isSome = true ∨ w.heap.size ≤ b)) ∨ e.loc = .mark .noRoom
/-- what the starter may lean on -/
structure Kn (J : Nat) (D : Nat → Dsc) (w : World) : Prop where
  bn : ∀ k, 1 ≤ k → k ≤ J → (D k).B ≤ w.heap.size
  rl : ∀ k, 1 ≤ k → k ≤ J → ∀ b, (D k).RB b → b < (D k).B
  cl : ∀ k, 1 ≤ k → k ≤ J → (D k).c < w.heap.size
structure MDid (J : Nat) (D : Nat → Dsc) (F F' : View) (w w' : World) (es : Array Event) : Prop where
  size : w.heap.size ≤ w'.heap.size
  sees : Sees F' w'
  same : ∀ b, b < w.heap.size → F b = none → w'.heap[b]? = w.heap[b]?
  kin : ∀ k, 1 ≤ k → k ≤ J → ∀ b, (D k).RB b → b < (D k).B → Kin (D k).RO w w' b
  new : ∀ b, (F' b).isSome = true → (F b).isSome = true ∨ w.heap.size ≤ b
  ev : ∀ e ∈ es, EvM J D F w w' e
  io : w'.os = w.os ∧ w'.output = w.output
theorem none_of {F : View} {b : Nat} (h : F b = none) (g : (F b).isSome = true) : False := by rw [h] at g; cases g
theorem MDid.none (h : MDid J D F F' w w' es) {b : Nat} (l : b < w.heap.size) (hf : F b = none) : F' b = none := by
  cases e : F' b with
  | none => rfl
  | some o =>
    rcases h.new b (by rw [e]; rfl) with q | q
    · exact (none_of hf q).elim
    · omega
theorem main_tr (h : Co P J D F a O cl rk gs w t) (hm : MDid J D F F' w w' es) {fn : FuncId} {pos : String} : Tr J w'.heap.size D O cl (t ++ MemOp.ofEvents 0 fn pos es) := by
  refine h.tr.app0 hm.size ?_ ?_ ?_ ?_
  · intro op hop
    obtain ⟨e, he, rfl⟩ := Conc.mem_ofEvents hop
    rfl
  · intro op hop x hx k k1 kJ
    obtain ⟨e, he, rfl⟩ := Conc.mem_ofEvents hop
    have far : ∀ b, ((F b).isSome = true ∨ w.heap.size ≤ b) → O k b → cl k = .got := by
      intro b e4 ho
      apply Classical.byContradiction
      intro ng
      have := h.fo k k1 kJ ng _ ho
      rcases e4 with e4 | e4
      · exact none_of this e4
      · have := h.ap.lt k k1 kJ _ ho
        omega
    obtain ⟨l, wr, sy⟩ := e
    rcases hm.ev _ he with ⟨e1, ad, e2, e3, e4, e5⟩ | ⟨e0, e1, b, e2, e3, e4⟩ | e1
    · dsimp only at e1 e2 e5
      subst e1 e2
      cases hx
      refine ⟨fun ho => far _ e4 ho, fun hw hr => ?_⟩
      obtain ⟨ad', e, r1, r2⟩ := hr
      cases e
      exact e5 hw k k1 kJ ⟨r1, r2⟩
    · dsimp only at e0 e1 e2
      subst e0 e1 e2
      cases hx
      refine ⟨fun ho => far _ e4 ho, fun hw => (by cases hw)⟩
    · dsimp only at e1
      subst e1
      cases hx
  · intro op hop m e
    obtain ⟨ev, he, rfl⟩ := Conc.mem_ofEvents hop
    obtain ⟨l, wr, sy⟩ := ev
    rcases hm.ev _ he with ⟨e1, ad, e2, e3, e4, e5⟩ | ⟨e0, e1, b, e2, e3, e4⟩ | e1
    · dsimp only at e1 e2
      subst e1 e2
      cases e
    · dsimp only at e0 e1 e2
      subst e0 e1 e2
      cases e
    · dsimp only at e1
      subst e1
      cases e
      rfl
  · intro op hop
    obtain ⟨ev, he, rfl⟩ := Conc.mem_ofEvents hop
    obtain ⟨l, wr, sy⟩ := ev
    rcases hm.ev _ he with ⟨e1, ad, e2, e3, e4, e5⟩ | ⟨e0, e1, b, e2, e3, e4⟩ | e1
    · dsimp only at e1 e2
      subst e1 e2
      exact e3
    · dsimp only at e0 e1 e2
      subst e0 e1 e2
      exact e3
    · dsimp only at e1
      subst e1
      trivial
theorem main_wk (h : Co P J D F a O cl rk gs w t) (hm : MDid J D F F' w w' es) {k : Nat} (k1 : 1 ≤ k) (kJ : k ≤ J) {g : Goroutine} (hw : Wst P (D k) (O k) (cl k) (rk k) g w) : Wst P (D k) (O k) (cl k) (rk k) g w' :=
  hw.rely hm.size (fun ng b o _ => hm.same b (h.ap.lt k k1 kJ b o) (h.fo k k1 kJ ng b o)) (fun _ b rb l _ => hm.kin k k1 kJ b rb l) fun ng => hm.same _ (h.clt k k1 kJ) (h.fc k k1 kJ ng)
theorem main_co (h : Co P J D F a O cl rk gs w t) (hm : MDid J D F F' w w' es) {gs' : Array Goroutine} (h0 : gs'[0]? = some a') (hsz : gs'.size = gs.size) (hk : ∀ k, 1 ≤ k → gs'[k]? = gs[k]?) {fn : FuncId} {pos : String} : Co P J D F' a' O cl rk gs' w' (t ++ MemOp.ofEvents 0 fn pos es) := by
  refine ⟨h0, hsz.trans h.size, main_tr h hm, ⟨h.ap.two, h.ap.rb, fun k k1 kJ b o => Nat.lt_of_lt_of_le (h.ap.lt k k1 kJ b o) hm.size, h.ap.rlt, fun k k1 kJ => Nat.le_trans (h.ap.bn k k1 kJ) hm.size⟩, hm.sees, fun k k1 kJ ng b o => hm.none (h.ap.lt k k1 kJ b o) (h.fo k k1 kJ ng b o), fun k k1 kJ ng => hm.none (h.clt k k1 kJ) (h.fc k k1 kJ ng), h.cc, fun k k1 kJ => ?_, h.qk, fun k k1 kJ => Nat.lt_of_lt_of_le (h.clt k k1 kJ) hm.size, h.oc, ⟨hm.io.1.trans h.io.1, hm.io.2.trans h.io.2⟩⟩
  obtain ⟨g, hg, hw⟩ := h.wk k k1 kJ
  exact ⟨g, by rw [hk k k1]; exact hg, main_wk h hm k1 kJ hw⟩
/-- AN OWN STEP OF THE STARTER'S -/
theorem main_own (hb : Base P) {Post : Goroutine → View → Prop} (ha : a.status = .running) (hs : ∀ w, Sees F w → Kn J D w → ∃ a' F' w' es, stepG P true a w = .go a' w' es ∧ MDid J D F F' w w' es ∧ Post a' F')
    {m : Machine} (h : At P J D F a cl0 m t) : Reach P m t fun m' t' => ∃ a' F', Post a' F' ∧ At P J D F' a' cl0 m' t' := by
  obtain ⟨O, cl, rk, gs, w, sl, rfl, hc, hg⟩ := h
  refine advance hb ha (cl0 := cl0) (fun O cl rk gs w t sl h hg => ?_) hc.rank sl hc hg
  obtain ⟨a', F', w', es, h1, h2, h3⟩ := hs w h.sees ⟨h.ap.bn, h.ap.rlt, h.clt⟩
  have hrunT := runT_crowd_go (P := P) (sl := sl) (i := 0) h.main (show stepG P (0 == 0) a w = _ from h1)
  refine ⟨_, _, hrunT, .now ⟨a', F', h3, O, cl, rk, _, w', sl, rfl, main_co h h2 ?_ (by simp) fun k k1 => ?_, hg⟩⟩
  · exact get_map_set_same _ _ _ (Array.getElem?_eq_some_iff.1 h.main).1
  · rw [get_map_set _ _ _ _ (by omega)]
    cases hx : gs[k]? with
    | none => rfl
    | some x =>
      have hst := (h.worker hx k1).2.st
      have : woken P a a' w' x = x := by
        unfold woken
        split
        · exact again_running _ hst
        · rfl
      simp [this]
def ext (F : View) (x : Nat) (o : Obj) : View := fun y => if y = x then some o else F y
theorem ext_eq (F : View) (x : Nat) (o : Obj) : ext F x o x = some o := if_pos rfl
theorem ext_ne (F : View) (x : Nat) (o : Obj) {y : Nat} (h : y ≠ x) : ext F x o y = F y := if_neg h
/-- the starter sees one block more -/
theorem co_view (h : Co P J D F a O cl rk gs w t) {x : Nat} {o : Obj} (hx : w.heap[x]? = some o) (hn : ∀ j, 1 ≤ j → j ≤ J → cl j ≠ .got → ¬ O j x ∧ (D j).c ≠ x) : Co P J D (ext F x o) a O cl rk gs w t := by
  refine ⟨h.main, h.size, h.tr, h.ap, fun b o' hb => ?_, fun k k1 kJ ng b ob => ?_, fun k k1 kJ ng => ?_, h.cc, h.wk, h.qk, h.clt, h.oc, h.io⟩
  · by_cases e : b = x
    · subst e; rw [ext_eq] at hb; cases hb; exact hx
    · rw [ext_ne _ _ _ e] at hb; exact h.sees b o' hb
  · rw [ext_ne _ _ _ ?_]
    · exact h.fo k k1 kJ ng b ob
    · rintro rfl
      exact (hn k k1 kJ ng).1 ob
  · rw [ext_ne _ _ _ (hn k k1 kJ ng).2]
    exact h.fc k k1 kJ ng
theorem no_chan_of {k : Nat} {x : Nat} {o : Obj} (h : Co P J D F a O cl rk gs w t) (hf : F x = some o) (k1 : 1 ≤ k) (kJ : k ≤ J) (ng : cl k ≠ .got) : (D k).c ≠ x := by
  rintro rfl
  rw [h.fc k k1 kJ ng] at hf
  cases hf
/-- the channel of the starter's view turns -/
theorem main_chan (h : Co P J D F a O cl rk gs w t) {c cap s r : Nat} {buf : Array Value} {cd tm : Bool} (hf : F c = some (.chan cap buf cd s r tm)) (cap' : Nat) (buf' : Array Value) (cd' : Bool) (s' r' : Nat) (tm' : Bool)
    {u : Trace} (hu : ∀ op ∈ u, op.g ≤ J) (ht : ∀ op ∈ u, op.act.touch? = none) (hm : Wordless u) (hl : ∀ op ∈ u, op.act.low w.heap.size) : Co P J D (ext F c (.chan cap' buf' cd' s' r' tm')) a' O cl rk (gs.setIfInBounds 0 a') (w.setChan c cap' buf' cd' s' r' tm') (t ++ u) := by
  have hch := h.sees c _ hf
  refine ⟨set_eq h.main, by simp [h.size], ?_, ?_, fun b o hb => ?_, fun k k1 kJ ng b ob => ?_, fun k k1 kJ ng => ?_, h.cc, fun k k1 kJ => ?_, h.qk, fun k k1 kJ => ?_, h.oc, h.io⟩
  · rw [setChan_sz]; exact h.tr.appN (Nat.le_refl _) hu ht hm hl
  · rw [setChan_sz]; exact h.ap
  · by_cases e : b = c
    · subst e; rw [ext_eq] at hb; cases hb; exact setChan_eq _ _ _ _ _ _ _ _ hch
    · rw [ext_ne _ _ _ e] at hb; rw [setChan_ne _ _ _ _ _ _ _ _ e]; exact h.sees b o hb
  · have e : b ≠ c := by
      rintro rfl
      rw [h.fo k k1 kJ ng b ob] at hf
      cases hf
    rw [ext_ne _ _ _ e]
    exact h.fo k k1 kJ ng b ob
  · rw [ext_ne _ _ _ (no_chan_of h hf k1 kJ ng)]
    exact h.fc k k1 kJ ng
  · obtain ⟨g, hg, hw⟩ := h.wk k k1 kJ
    exact ⟨g, by rw [set_ne (by omega)]; exact hg, hw.chan hch (fun ng => no_chan_of h hf k1 kJ ng) _ _ _ _ _ _⟩
  · rw [setChan_sz]; exact h.clt k k1 kJ
/-- THE STARTER SENDS into a buffer of its own view -/
theorem main_send (hb : Base P) (ha : a.status = .running) {c s r : Nat} {tm : Bool} {val z : Value} (hf : F c = some (.chan 1 #[] false s r tm)) (hs : ∀ w, Sees F w → stepG P true a w = .comm a #[scase c val z] true .send w #[])
    {m : Machine} (h : At P J D F a cl0 m t) : Reach P m t fun m' t' => At P J D (ext F c (.chan 1 #[val] false (s + 1) r tm)) (Conc.served a undef) cl0 m' t' := by
  obtain ⟨O, cl, rk, gs, w, sl, rfl, hc, hg⟩ := h
  refine advance hb ha (cl0 := cl0) (fun O cl rk gs w t sl h hg => ?_) hc.rank sl hc hg
  have hch := h.sees c _ hf
  have hcl : c < w.heap.size := (Array.getElem?_eq_some_iff.1 hch).1
  have hrunT := crowd_send_room (P := P) (sl := sl) (i := 0) h.main (show stepG P (0 == 0) a w = _ from hs w h.sees) hch (by simp) (no_offers h (offersAt_of_not_blocked (by rw [ha]; simp) _ _))
  refine ⟨_, _, hrunT, .now ⟨O, cl, rk, _, _, sl, rfl, ?_, hg⟩⟩
  refine main_chan h hf _ _ _ _ _ _ ?_ ?_ ?_ ?_
  · intro op hop; simp [MemOp.ofEvents] at hop; rcases hop with rfl | rfl <;> exact Nat.zero_le _
  · intro op hop; simp [MemOp.ofEvents] at hop; rcases hop with rfl | rfl <;> rfl
  · intro op hop m e; simp [MemOp.ofEvents] at hop; rcases hop with rfl | rfl <;> cases e
  · intro op hop; simp [MemOp.ofEvents] at hop; rcases hop with rfl | rfl <;> exact hcl
/-- THE STARTER RECEIVES out of a buffer of its own view -/
theorem main_recv2 (hb : Base P) (ha : a.status = .running) {c s r : Nat} {tm : Bool} {val z : Value} (hf : F c = some (.chan 1 #[val] false s r tm)) (hs : ∀ w, Sees F w → stepG P true a w = .comm a #[rcase c z] true (.recv false) w #[])
    {m : Machine} (h : At P J D F a cl0 m t) : Reach P m t fun m' t' => At P J D (ext F c (.chan 1 #[] false s (r + 1) tm)) (Conc.served a val) cl0 m' t' := by
  obtain ⟨O, cl, rk, gs, w, sl, rfl, hc, hg⟩ := h
  refine advance hb ha (cl0 := cl0) (fun O cl rk gs w t sl h hg => ?_) hc.rank sl hc hg
  have hch := h.sees c _ hf
  have hcl : c < w.heap.size := (Array.getElem?_eq_some_iff.1 hch).1
  have hrunT := crowd_recv_buf (P := P) (sl := sl) (i := 0) h.main (show stepG P (0 == 0) a w = _ from hs w h.sees) hch (by simp) (no_offers h (offersAt_of_not_blocked (by rw [ha]; simp) _ _))
  refine ⟨_, _, hrunT, .now ⟨O, cl, rk, _, _, sl, rfl, ?_, hg⟩⟩
  refine main_chan h hf _ _ _ _ _ _ ?_ ?_ ?_ ?_
  · intro op hop; simp [MemOp.ofEvents] at hop; rcases hop with rfl | rfl <;> exact Nat.zero_le _
  · intro op hop; simp [MemOp.ofEvents] at hop; rcases hop with rfl | rfl <;> rfl
  · intro op hop m e; simp [MemOp.ofEvents] at hop; rcases hop with rfl | rfl <;> cases e
  · intro op hop; simp [MemOp.ofEvents] at hop; rcases hop with rfl | rfl <;> exact hcl
end
end Go.Proofs.YtgjhmbbbkkidlaaGreatDoor.sim
/-
  The company: the starter's first receive, its go statement, its end.
  Conditions: none; no program in sight.
-/
namespace Go.Proofs.YtgjhmbbbkkidlaaGreatDoor.sim
open Go
open Go.Conc
open Go.ConcN (PermW upd upd_same upd_ne get_map_set get_map_set_same)
section
variable {P : Program} {J : Nat} {D : Nat → Dsc} {F F' : View} {a a' : Goroutine} {O : Nat → Nat → Prop} {cl cl0 : Nat → Cls} {rk : Nat → Rk} {gs : Array Goroutine} {w w' : World} {t : Trace} {sl : Option (Nat × Nat)} {es : Array Event}
/-- what the starter holds when it has received -/
def Held (P : Program) (J : Nat) (D : Nat → Dsc) (F : View) (a : Goroutine) (cl0 : Nat → Cls) (k : Nat) (m : Machine) (t : Trace) : Prop :=
  ∃ b cp c e fr tm, (∀ i, i < 8 → ∃ v, c[i]? = some v ∧ (D k).H[i]? = some v) ∧ F b = none ∧ (∀ j, 1 ≤ j → j ≤ J → b ≠ (D j).c) ∧
    At P J D (ext (ext F (D k).c (.chan 1 #[] false 1 1 tm)) b (.cells c e fr)) (Conc.served a (.slice (some ⟨b, 0, none⟩) 8 cp)) (upd cl0 k .got) m t
theorem held {k : Nat} (k1 : 1 ≤ k) (kJ : k ≤ J) {a0 : Goroutine} {val : Value} {tm : Bool} (hF : ∀ b, O k b → F b = none) (h : Co P J D F (Conc.served a0 val) O cl rk gs w t) (hg : ∀ j, cl j = .got ↔ (cl0 j = .got ∨ j = k)) (hch : w.heap[(D k).c]? = some (.chan 1 #[] false 1 1 tm)) (hv : Gv (D k).H (O k) val w) :
    Held P J D F a0 cl0 k (crowd gs w sl) t := by
  obtain ⟨b, cp, c, e, fr, rfl, ho, hb, hH⟩ := hv
  have ngk : ∀ j, cl j ≠ .got → j ≠ k := fun j ng e => ng ((hg j).2 (.inr e))
  have hbc : b ≠ (D k).c := by
    rintro rfl
    rw [hb] at hch
    cases hch
  have h1 := co_view h hch (fun j j1 jJ ng => ⟨fun o => h.oc j k j1 jJ k1 kJ _ o rfl, fun e => h.cc j k j1 jJ k1 kJ (ngk j ng) e⟩)
  have h2 := co_view h1 hb (fun j j1 jJ ng => ⟨fun o => h.ap.two j k j1 jJ k1 kJ (ngk j ng) b o ho, fun e => h.oc k j k1 kJ j1 jJ b ho e.symm⟩)
  refine ⟨b, cp, c, e, fr, tm, hH, hF b ho, fun j j1 jJ => h.oc k j k1 kJ j1 jJ b ho, O, cl, rk, gs, w, sl, rfl, h2, fun j => ?_⟩
  rw [hg j]
  by_cases ej : j = k
  · subst ej; rw [upd_same]; simp
  · rw [upd_ne _ _ ej]; simp [ej]
/-- THE STARTER RECEIVES what a worker hands over -/
theorem main_recv (hb : Base P) {k : Nat} (k1 : 1 ≤ k) (kJ : k ≤ J) (hk : cl0 k ≠ .got) (ha : a.status = .running) {z : Value} (hs : ∀ w, Sees F w → stepG P true a w = .comm a #[rcase (D k).c z] true (.recv false) w #[])
    {m : Machine} (h : At P J D F a cl0 m t) : Reach P m t (Held P J D F a cl0 k) := by
  obtain ⟨O, cl, rk, gs, w, sl, rfl, hc, hg⟩ := h
  refine advance hb ha (cl0 := cl0) (fun O cl rk gs w t sl h hg => ?_) hc.rank sl hc hg
  have hst := hs w h.sees
  have hcl := h.clt k k1 kJ
  obtain ⟨gk, hgk, hwk⟩ := h.wk k k1 kJ
  have noo : ∀ send, partners (gs.setIfInBounds 0 ph) (D k).c send = [] := fun send => no_offers h (offersAt_of_not_blocked (by rw [ha]; simp) _ _)
  cases hc : cl k with
  | got => exact (hk ((hg k).1 hc)).elim
  | work =>
    rw [hc] at hwk
    obtain ⟨tm, hch⟩ := hwk.ch0
    have hrunT := crowd_waits (P := P) (sl := sl) (i := 0) (shape := .recv false) h.main (show stepG P (0 == 0) a w = _ from hst) (fun cc hcc => by
      have : cc = rcase (D k).c z := by simpa using hcc
      subst this
      exact ways_recv_none hch (noo true))
    rw [show MemOp.ofEvents 0 a.frame.fn a.frame.place #[] = #[] from rfl] at hrunT
    refine ⟨_, _, hrunT, ?_⟩
    rw [Array.append_empty]
    have h' : Co P J D F (parked a #[rcase (D k).c z] (.recv false)) O cl rk (gs.setIfInBounds 0 (parked a #[rcase (D k).c z] (.recv false))) w t :=
      ⟨set_eq h.main, by simp [h.size], h.tr, h.ap, h.sees, h.fo, h.fc, h.cc, fun j j1 jJ => (h.wk j j1 jJ).elim fun g hg => ⟨g, by rw [set_ne (by omega)]; exact hg.1, hg.2⟩, h.qk, h.clt, h.oc, h.io⟩
    refine await hb k1 kJ (cl0 := cl0) (fun O' cl' rk' gs' w' t' sl' val tm' h2 hg' hch' hv hF => ?_) h'.rank sl h' hc hg
    exact .now (held k1 kJ hF h2 hg' hch' hv)
  | sent p =>
    rw [hc] at hwk
    cases hr : rk k with
    | b s => rw [hr] at hwk; exact hwk.elim
    | w s => rw [hr] at hwk; exact hwk.elim
    | o n =>
    rw [hr] at hwk
    obtain ⟨hq, val, tm, hch, hv⟩ := hwk
    have hrunT := crowd_recv_buf (P := P) (sl := sl) (i := 0) h.main (show stepG P (0 == 0) a w = _ from hst) hch (by simp) (noo true)
    refine ⟨_, _, hrunT, .now (held (O := O) (cl := upd cl k .got) (rk := rk) (cl0 := cl0) (val := val) (tm := tm) k1 kJ (h.fo k k1 kJ (by rw [hc]; simp)) ?_ (fun j => ?_) ?_ ?_)⟩
    · refine ⟨set_eq h.main, by simp [h.size], ?_, ?_, fun b o hb => ?_, fun j j1 jJ ng => h.fo j j1 jJ (fun e => ng ?_), fun j j1 jJ ng => h.fc j j1 jJ (fun e => ng ?_), h.cc, fun j j1 jJ => ?_, h.qk, fun j j1 jJ => (by rw [setChan_sz]; exact h.clt j j1 jJ), h.oc, h.io⟩
      · rw [setChan_sz]
        refine Tr.gotNow (h.tr.appN (Nat.le_refl _) ?_ ?_ ?_ ?_) k1 kJ hc ⟨rfl, rfl⟩
        · intro op hop; simp at hop; rcases hop with rfl | rfl <;> exact Nat.zero_le _
        · intro op hop; simp at hop; rcases hop with rfl | rfl <;> rfl
        · intro op hop m e; simp at hop; rcases hop with rfl | rfl <;> cases e
        · intro op hop; simp at hop; rcases hop with rfl | rfl <;> exact hcl
      · rw [setChan_sz]; exact h.ap
      · refine (setChan_ne _ _ _ _ _ _ _ _ ?_).trans (h.sees b o hb)
        rintro rfl
        rw [h.fc k k1 kJ (by rw [hc]; simp)] at hb
        cases hb
      · by_cases ej : j = k
        · subst ej; exact upd_same _ _ _
        · rw [upd_ne _ _ ej]; exact e
      · by_cases ej : j = k
        · subst ej; exact upd_same _ _ _
        · rw [upd_ne _ _ ej]; exact e
      · by_cases ej : j = k
        · subst ej
          refine ⟨gk, by rw [set_ne (by omega)]; exact hgk, ?_⟩
          rw [upd_same, hr]
          exact hq
        · obtain ⟨gj, hgj, hwj⟩ := h.wk j j1 jJ
          refine ⟨gj, by rw [set_ne (by omega)]; exact hgj, ?_⟩
          rw [upd_ne _ _ ej]
          exact hwj.chan hch (fun _ => h.cc j k j1 jJ k1 kJ ej) _ _ _ _ _ _
    · by_cases ej : j = k
      · subst ej; rw [upd_same]; simp
      · rw [upd_ne _ _ ej, hg j]; simp [ej]
    · exact setChan_eq _ _ _ _ _ _ _ _ hch
    · refine hv.mono (fun b o => o) fun b nc => setChan_ne _ _ _ _ _ _ _ _ ?_
      rintro rfl
      exact nc _ _ _ _ _ _ hch
end
end Go.Proofs.YtgjhmbbbkkidlaaGreatDoor.sim
/-
  The company: the starter's go statement, its end.
  Conditions: none; no program in sight.
-/
namespace Go.Proofs.YtgjhmbbbkkidlaaGreatDoor.sim
open Go
open Go.Conc
open Go.ConcN (PermW upd upd_same upd_ne get_map_set get_map_set_same)
section
variable {P : Program} {J N : Nat} {D D' : Nat → Dsc} {F F' : View} {a a' : Goroutine} {O O' : Nat → Nat → Prop} {cl cl' cl0 : Nat → Cls} {rk : Nat → Rk} {gs : Array Goroutine} {w w' : World} {t : Trace} {sl : Option (Nat × Nat)} {es : Array Event}
theorem Tr.congr (h : Tr J N D O cl t) (hD : ∀ k, k ≤ J → D' k = D k) (hO : ∀ k, k ≤ J → O' k = O k) (hc : ∀ k, k ≤ J → cl' k = cl k) : Tr J N D' O' cl' t := by
  refine ⟨h.clean, h.word, h.who, fun i x k hx hm hg hk => ?_, fun k k1 kJ hw l hr => ?_, fun k k1 kJ hw i x hx ho => ?_, fun k p k1 kJ hs => ?_, fun k k1 kJ hg => ?_, h.seen⟩
  · have kJ : k ≤ J := by
      obtain ⟨op, h1, _, h3⟩ := touchAt_g hx
      rw [hg] at h3
      have := h.who op (mem_of_getElem? h1)
      have e : k = op.g := Option.some.inj h3
      omega
    rw [hD k kJ, hO k kJ]
    exact h.tou i x k hx hm hg hk
  · rw [hD k kJ] at hr
    exact h.rd k k1 kJ ((hc k kJ).symm.trans hw) l hr
  · rw [hO k kJ] at ho
    exact h.ow k k1 kJ ((hc k kJ).symm.trans hw) i x hx ho
  · rw [hD k kJ]
    exact h.sent k p k1 kJ ((hc k kJ).symm.trans hs)
  · exact h.got k k1 kJ ((hc k kJ).symm.trans hg)
/-- what a new worker is when it is started -/
structure Fresh (P : Program) (F : View) (w : World) (d : Dsc) (s : Sit) (child : Goroutine) : Prop where
  B : d.B = w.heap.size
  rb : ∀ b, d.RB b → (F b).isSome = true ∧ b < d.B
  ch : ∃ tm, F d.c = some (.chan 1 #[] false 0 0 tm)
  born : ∃ g0, (∀ w, stepG P false child w = .go g0 w #[]) ∧ g0.status = .running ∧ ∃ ρ, Working P d ρ s g0 w ∧ ∀ b, ¬ Own ρ b
  fin : Fin P d.Q s
  run : child.status = .running
  q : QOk P d
def less (F : View) (c : Nat) : View := fun x => if x = c then none else F x
theorem less_eq (F : View) (c : Nat) : less F c c = none := if_pos rfl
theorem less_ne (F : View) {c x : Nat} (h : x ≠ c) : less F c x = F x := if_neg h
theorem less_none {F : View} {c x : Nat} (h : F x = none) : less F c x = none := by
  unfold less
  split
  · rfl
  · exact h
def C0 : Nat → Cls := fun _ => .work
/-- THE STARTER's go STATEMENT -/
theorem main_spawn (hb : Base P) (ha : a.status = .running) {Post : Goroutine → Dsc → Prop}
    (hs : ∀ w, Sees F w → ∃ a' child d s es, stepG P true a w = .spawn a' child w es ∧ (∀ e ∈ es, EvM J D F w w e) ∧ Fresh P F w d s child ∧ Post a' d)
    {m : Machine} (h : At P J D F a C0 m t) : Reach P m t fun m' t' => ∃ a' d, Post a' d ∧ At P (J + 1) (upd D (J + 1) d) (less F d.c) a' C0 m' t' := by
  obtain ⟨O, cl, rk, gs, w, sl, rfl, hc, hg⟩ := h
  refine advance hb ha (cl0 := C0) (fun O cl rk gs w t sl h hg => ?_) hc.rank sl hc hg
  obtain ⟨a', child, d, s, es, h1, h2, hf, h3⟩ := hs w h.sees
  have ng : ∀ k, cl k ≠ .got := fun k e => by
    have := (hg k).1 e
    cases this
  have hrunT := runT_crowd_spawn (P := P) (sl := sl) (i := 0) h.main (show stepG P (0 == 0) a w = _ from h1)
  obtain ⟨tm, hch⟩ := hf.ch
  have hchw := h.sees _ _ hch
  obtain ⟨g0, hst0, hrun0, ρ, hW, hno⟩ := hf.born
  have hmd : MDid J D F F w w es := ⟨Nat.le_refl _, h.sees, fun _ _ _ => rfl, fun _ _ _ _ _ _ => .inl rfl, fun _ x => .inl x, h2, ⟨rfl, rfl⟩⟩
  have htr := main_tr h hmd (fn := a.frame.fn) (pos := a.frame.place)
  have ne : ∀ {k}, k ≤ J → k ≠ J + 1 := fun h => by omega
  have hD : ∀ k, k ≤ J → upd D (J + 1) d k = D k := fun k kJ => upd_ne _ _ (ne kJ)
  have hDn : upd D (J + 1) d (J + 1) = d := upd_same _ _ _
  have hO : ∀ k, k ≤ J → upd O (J + 1) (fun _ => False) k = O k := fun k kJ => upd_ne _ _ (ne kJ)
  have hOn : upd O (J + 1) (fun _ => False) (J + 1) = fun _ => False := upd_same _ _ _
  have hcl : ∀ k, k ≤ J → upd cl (J + 1) .work k = cl k := fun k kJ => upd_ne _ _ (ne kJ)
  have hcn : upd cl (J + 1) .work (J + 1) = .work := upd_same _ _ _
  have le : ∀ k, k ≤ J + 1 → k ≤ J ∨ k = J + 1 := fun k hk => by omega
  have dis : ∀ j, 1 ≤ j → j ≤ J → ∀ b, O j b → ¬ d.RB b := by
    intro j j1 jJ b o rb
    exact none_of (h.fo j j1 jJ (ng j) b o) (hf.rb b rb).1
  refine ⟨_, _, hrunT, .now ⟨a', d, h3, upd O (J + 1) (fun _ => False), upd cl (J + 1) .work, upd rk (J + 1) (.b s), _, w, sl, rfl, ?_, fun k => ?_⟩⟩
  rotate_left
  · by_cases e : k = J + 1
    · subst e; rw [hcn]; simp [C0]
    · rw [upd_ne _ _ e, hg k]
  have pp : ∀ (x : Trace) (y z : MemOp), t ++ (x.push y).push z = (t ++ x) ++ (#[y] ++ #[z]) := fun x y z => by
    rw [Array.push_eq_append, Array.push_eq_append, Array.append_assoc, Array.append_assoc]
  rw [pp]
  have hsz : gs.size = J + 1 := h.size
  have hget : ∀ k, k ≤ J → ((gs.setIfInBounds 0 a').push child)[k]? = (gs.setIfInBounds 0 a')[k]? := by
    intro k kJ
    rw [Array.getElem?_push, if_neg (by simp; omega)]
  refine ⟨?_, ?_, ?_, ⟨?_, ?_, ?_, ?_, ?_⟩, ?_, ?_, ?_, ?_, ?_, ?_, ?_, ?_, ?_⟩
  · rw [hget 0 (Nat.zero_le _), set_eq h.main]
  · simp [hsz]
  · have e : (#[{ g := 0, fn := a.frame.fn, pos := a.frame.place, act := .go gs.size }] ++ #[{ g := gs.size, fn := child.frame.fn, pos := a.frame.place, act := .start }] : Array MemOp) = #[{ g := 0, fn := a.frame.fn, pos := a.frame.place, act := .go (J + 1) }, { g := J + 1, fn := child.frame.fn, pos := a.frame.place, act := .start }] := by rw [hsz]; rfl
    rw [e]
    refine (htr.congr (D' := upd D (J + 1) d) (O' := upd O (J + 1) fun _ => False) (cl' := upd cl (J + 1) .work) hD hO hcl).fork (fun j j1 jJ b o => ?_) (fun b o => ?_) hcn ⟨rfl, rfl⟩ ⟨rfl, rfl⟩
    · rw [hDn]
      rw [hO j jJ] at o
      exact dis j j1 jJ b o
    · rw [hOn] at o; exact o
  · intro k j k1 kJ j1 jJ hkj b o o'
    rcases le k kJ with kJ' | rfl
    · rcases le j jJ with jJ' | rfl
      · rw [hO k kJ'] at o
        rw [hO j jJ'] at o'
        exact h.ap.two k j k1 kJ' j1 jJ' hkj b o o'
      · rw [hOn] at o'; exact o'
    · rw [hOn] at o; exact o
  · intro k j k1 kJ j1 jJ b o
    rcases le k kJ with kJ' | rfl
    · rw [hO k kJ'] at o
      rcases le j jJ with jJ' | rfl
      · rw [hD j jJ']; exact h.ap.rb k j k1 kJ' j1 jJ' b o
      · rw [hDn]; exact dis k k1 kJ' b o
    · rw [hOn] at o; exact o.elim
  · intro k k1 kJ b o
    rcases le k kJ with kJ' | rfl
    · rw [hO k kJ'] at o; exact h.ap.lt k k1 kJ' b o
    · rw [hOn] at o; exact o.elim
  · intro k k1 kJ b o
    rcases le k kJ with kJ' | rfl
    · rw [hD k kJ'] at o ⊢; exact h.ap.rlt k k1 kJ' b o
    · rw [hDn] at o ⊢; exact (hf.rb b o).2
  · intro k k1 kJ
    rcases le k kJ with kJ' | rfl
    · rw [hD k kJ']; exact h.ap.bn k k1 kJ'
    · rw [hDn]; exact Nat.le_of_eq hf.B
  · intro b o hb'
    by_cases e : b = d.c
    · subst e; rw [less_eq] at hb'; cases hb'
    · rw [less_ne _ e] at hb'; exact h.sees b o hb'
  · intro k k1 kJ hk b o
    rcases le k kJ with kJ' | rfl
    · rw [hO k kJ'] at o; exact less_none (h.fo k k1 kJ' (ng k) b o)
    · rw [hOn] at o; exact o.elim
  · intro k k1 kJ hk
    rcases le k kJ with kJ' | rfl
    · rw [hD k kJ']; exact less_none (h.fc k k1 kJ' (ng k))
    · rw [hDn]; exact less_eq _ _
  · intro k j k1 kJ j1 jJ hkj
    rcases le k kJ with kJ' | rfl
    · rcases le j jJ with jJ' | rfl
      · rw [hD k kJ', hD j jJ']; exact h.cc k j k1 kJ' j1 jJ' hkj
      · rw [hD k kJ', hDn]; exact no_chan_of h hch k1 kJ' (ng k)
    · rcases le j jJ with jJ' | rfl
      · rw [hD j jJ', hDn]; exact (no_chan_of h hch j1 jJ' (ng j)).symm
      · exact (hkj rfl).elim
  · intro k k1 kJ
    rcases le k kJ with kJ' | rfl
    · obtain ⟨gk, hgk, hwk⟩ := h.wk k k1 kJ'
      refine ⟨gk, by rw [hget k kJ', set_ne (by omega)]; exact hgk, ?_⟩
      rw [hD k kJ', hO k kJ', hcl k kJ', upd_ne rk _ (ne kJ')]
      exact hwk
    · refine ⟨child, by rw [Array.getElem?_push, if_pos (by simp [hsz])], ?_⟩
      rw [hDn, hOn, hcn, upd_same]
      exact ⟨⟨g0, hst0, hrun0, ρ, hW, fun b => ⟨fun x => x.elim, fun x => hno b x⟩⟩, hf.fin, hf.run, tm, hchw⟩
  · intro k k1 kJ
    rcases le k kJ with kJ' | rfl
    · rw [hD k kJ']; exact h.qk k k1 kJ'
    · rw [hDn]; exact hf.q
  · intro k k1 kJ
    rcases le k kJ with kJ' | rfl
    · rw [hD k kJ']; exact h.clt k k1 kJ'
    · rw [hDn]; exact (Array.getElem?_eq_some_iff.1 hchw).1
  · intro k j k1 kJ j1 jJ b o
    rcases le k kJ with kJ' | rfl
    · rw [hO k kJ'] at o
      rcases le j jJ with jJ' | rfl
      · rw [hD j jJ']; exact h.oc k j k1 kJ' j1 jJ' b o
      · rw [hDn]
        rintro rfl
        rw [h.fo k k1 kJ' (ng k) _ o] at hch
        cases hch
    · rw [hOn] at o; exact o.elim
  · rw [hD 0 (Nat.zero_le _)]; exact h.io
/-! ### the end -/
def Ends (P : Program) (m : Machine) (t : Trace) (Q : Machine → Outcome → World → Trace → Prop) : Prop :=
  ∃ N last o w' t', runNT P (N + 1) m t = (.ended o w', t') ∧ runN P N m = .next last ∧ step P last = .ended o w' ∧ Q last o w' t'
theorem Ends.step {m m1 : Machine} {ops : Array MemOp} {Q : Machine → Outcome → World → Trace → Prop} (h : stepT P m = (.next m1, ops)) (g : Ends P m1 (t ++ ops) Q) : Ends P m t Q := by
  obtain ⟨N, last, o, w', t', h1, h2, h3, h4⟩ := g
  exact ⟨N + 1, last, o, w', t', by rw [runNT_succ_next h]; exact h1, by rw [runN_succ_next h]; exact h2, h3, h4⟩
theorem Reach.ends {m : Machine} {Goal : Machine → Trace → Prop} {Q : Machine → Outcome → World → Trace → Prop} (h : Reach P m t Goal) (g : ∀ m' t', Goal m' t' → Ends P m' t' Q) : Ends P m t Q := by
  obtain ⟨N0, m', t', h1, h2⟩ := h
  obtain ⟨N, last, o, w', t2, h3, h4, h5, h6⟩ := g m' t' h2
  refine ⟨N0 + N, last, o, w', t2, ?_, ?_, h5, h6⟩
  · rw [Nat.add_assoc, runNT_add, h1]; exact h3
  · rw [runN_add, ← runNT_fst P N0 _ t, h1]; exact h4
/-- THE RETURN -/
theorem main_end (hb : Base P) (ha : a.status = .running) (hgot : ∀ k, 1 ≤ k → k ≤ J → cl0 k = .got) {Post : Value → World → Prop} (hs : ∀ w, Sees F w → w.os = (D 0).w0.os → w.output = (D 0).w0.output → ∃ v es, stepG P true a w = .ended (.done v) w es ∧ (∀ e ∈ es, EvM J D F w w e) ∧ Post v w)
    {m : Machine} (h : At P J D F a cl0 m t) : Ends P m t (Good P Post) := by
  obtain ⟨O, cl, rk, gs, w, sl, rfl, hc, hg⟩ := h
  have hacc := hc.rank
  induction hacc generalizing O cl gs w t sl with
  | intro rk _ ih =>
    obtain ⟨i, g, d, sl', hi, hrun, hst⟩ := crowd_pick (P := P) (w := w) (sl := sl) (hc.awake (.inl ha)) ⟨0, a, hc.main, ha⟩
    have h' := co_at hc d
    rcases Nat.eq_zero_or_pos i with rfl | hpos
    · obtain ⟨v, es, h1, h2, h3⟩ := hs (w.at d) h'.sees h'.io.1 h'.io.2
      rw [hc.main] at hi
      cases hi
      have hrunT := runT_many_ended (P := P) (sl := sl') (i := 0) hc.main (show stepG P (0 == 0) a (w.at d) = _ from h1)
      have hmd : MDid J D F F (w.at d) (w.at d) es := ⟨Nat.le_refl _, h'.sees, fun _ _ _ => rfl, fun _ _ _ _ _ _ => .inl rfl, fun _ x => .inl x, h2, ⟨rfl, rfl⟩⟩
      have htr := main_tr h' hmd (fn := a.frame.fn) (pos := a.frame.place)
      have hp := htr.past fun k k1 kJ => (hg k).2 (hgot k k1 kJ)
      have lv : ∀ j x, 1 ≤ j → gs[j]? = some x → ∃ n, QuitsIn P n x := by
        intro j x j1 hx
        obtain ⟨jJ, hw⟩ := hc.worker hx j1
        rw [(hg j).2 (hgot j j1 jJ)] at hw
        cases hr : rk j with
        | b s => rw [hr] at hw; exact hw.elim
        | w s => rw [hr] at hw; exact hw.elim
        | o n => rw [hr] at hw; exact ⟨n, hw⟩
      refine ⟨0, crowd gs w sl, .done v, w.at d, t ++ MemOp.ofEvents 0 a.frame.fn a.frame.place es, ?_, rfl, ?_, v, rfl, h3, hp.clean, hp.over, ⟨fun x hx => ?_, rfl⟩, fun j x hx hj => ?_⟩
      · simp only [runNT, hst, hrunT]
      · rw [step, hst, hrunT]
      · obtain ⟨j, hj⟩ := List.mem_iff_getElem?.1 hx
        rw [List.getElem?_drop] at hj
        obtain ⟨n, hq⟩ := lv (1 + j) x (by omega) (by simpa [crowd] using hj)
        exact ⟨_, (QuitsD.of_quitsIn hq).leaves⟩
      · obtain ⟨n, hq⟩ := lv j x (by omega) hx
        refine ⟨n, ?_⟩
        have e : (t ++ MemOp.ofEvents 0 a.frame.fn a.frame.place es).deaf j (t ++ MemOp.ofEvents 0 a.frame.fn a.frame.place es).size = 0 := htr.word.deaf _ _
        rw [e]
        exact (QuitsD.of_quitsIn hq).hears _
    · obtain ⟨gs', w', ops, h1, h2⟩ := co_any hb h' (.inl ha) hi hpos hrun sl'
      rcases h2 with ⟨O', cl', rk', h3, h4, h5, _⟩ | ⟨j, a0, z, _, _, _, _, _, he, _⟩
      · exact .step (hst.trans h1) (ih rk' h4 O' cl' gs' w' sl' h3 (hg.trans h5))
      · rw [he] at ha
        cases ha
end
end Go.Proofs.YtgjhmbbbkkidlaaGreatDoor.sim
/-
  The company: the starter runs code of which a lone run is known.
  Conditions: none; no program in sight.
-/
namespace Go.Proofs.YtgjhmbbbkkidlaaGreatDoor.sim
open Go
open Go.Conc
section
variable {P : Program} {J : Nat} {D : Nat → Dsc} {F : View} {cl0 : Nat → Cls} {ds : List Frame}
structure MS (P : Program) (ds : List Frame) (J : Nat) (D : Nat → Dsc) (F : View) (ρ : Rn) (s : Sit) (a : Goroutine) (F1 : View) : Prop where
  st : ∃ fr' cs', a = G fr' cs' ∧ StR P ds ρ s.fr s.cs fr' cs'
  wh : ∀ w, Sees F1 w → WH ρ s.v w
  hG : P.globals.size ≤ ρ.g0
  hg : ∀ g, g < P.globals.size → ρ.rel g g
  rng : ∀ b b', ρ.rel b b' → (F1 b').isSome = true
  own : ∀ b', Own ρ b' → F b' = none ∧ ∀ k, 1 ≤ k → k ≤ J → (D k).B ≤ b'
  keep : ∀ b o, F b = some o → F1 b = some o
theorem WH.turn {ρ : Rn} {v w w2 : World} (h : WH ρ v w) (hs : ρ.g0 ≤ w2.heap.size) (he : ∀ b b', ρ.rel b b' → w2.heap[b']? = w.heap[b']?) : WH ρ v w2 := by
  refine ⟨fun b b' r => ?_, ⟨h.g0.1, hs⟩, h.own, h.only⟩
  have e := he b b' r
  rcases h.rng b b' r with ⟨c, e1, fr, c', fr', h1, h2, h3⟩ | ⟨a, a', l, h1, h2, h3⟩
  · exact .inl ⟨c, e1, fr, c', fr', h1, e.trans h2, h3⟩
  · exact .inr ⟨a, a', l, h1, e.trans h2, h3⟩
theorem main_sim {ρg : Nat} (hb : Base P) (hg0 : P.globals.size = ρg) {Q : Sit → Prop} {s : Sit} (hf : Fin P Q s) : ∀ {ρ : Rn} {a : Goroutine} {F1 : View} {m : Machine} {t : Trace}, ρ.g0 = ρg → MS P ds J D F ρ s a F1 → At P J D F1 a cl0 m t →
    Reach P m t fun m' t' => ∃ ρ s a' F1, Q s ∧ MS P ds J D F ρ s a' F1 ∧ At P J D F1 a' cl0 m' t' := by
  induction hf with
  | stop q => intro ρ a F1 m t hgz h hat; exact .now ⟨ρ, _, a, F1, q, h, hat⟩
  | @step s nx h1 h2 ih =>
    intro ρ a F1 m t hgz h hat
    obtain ⟨fr', cs', rfl, st⟩ := h.st
    refine (main_own hb (Post := fun a' F' => ∃ T, Agrees s T ∧ ∃ ρ1 : Rn, ρ1.g0 = ρg ∧ MS P ds J D F ρ1 (nx T) a' F') rfl (fun w hw hk => ?_) hat).trans fun m' t' hm' => ?_
    rotate_left
    · obtain ⟨a', F', ⟨T, hT, ρ1, hg1, hms⟩, hat'⟩ := hm'
      exact ih T hT hg1 hms hat'
    · classical
      let T : Tape := fun i q => if i < s.v.drawn then s.v.tape i q else w.tape (w.drawn + (i - s.v.drawn)) q
      have hT : Agrees s T := fun i q hi => if_pos hi
      have hwh := h.wh w hw
      have hwr : WR ρ (s.on T).v w := hwh.wr fun i q => by
        show (if s.v.drawn + i < s.v.drawn then _ else _) = _
        rw [if_neg (by omega), show s.v.drawn + i - s.v.drawn = i by omega]
      obtain ⟨⟨es, he⟩, np, nc⟩ := h1 T hT
      obtain ⟨_, ρ1, fr1, cs1, w1, es1, hy, st1, hw1, hd, hev⟩ := (both_step hb.bodies h.hG h.hg st hwr true).follows _ _ _ es he np nc
      have ownlt : ∀ b', Own ρ b' → b' < w.heap.size := fun b' ⟨b, o, r⟩ => (hwh.lt r).2
      have ownF : ∀ b', Own ρ b' → (F1 b').isSome = true := fun b' ⟨b, o, r⟩ => h.rng b b' r
      have own1 : ∀ b', Own ρ1 b' → Own ρ b' ∨ w.heap.size ≤ b' := by
        rintro b' ⟨b, o, r⟩
        rcases hd.fresh b b' r with r0 | ⟨_, l⟩
        · rcases hd.fown b o with o | l2
          · exact .inl ⟨b, o, r0⟩
          · have hlt : b < s.v.heap.size := (hwh.lt r0).1
            have l2 : s.v.heap.size ≤ b := l2
            omega
        · exact .inr l
      have up : ∀ b', Own ρ b' → Own ρ1 b' := fun b' ⟨b, o, r⟩ => ⟨b, hd.le.2.1 _ o, hd.le.1 _ _ r⟩
      have same : ∀ b, b < w.heap.size → ¬ Own ρ b → w1.heap[b]? = w.heap[b]? := by
        intro b l no
        apply Classical.byContradiction
        intro ne
        obtain ⟨b0, o, r⟩ := hd.same b l ne
        exact no ⟨b0, o, r⟩
      let F' : View := fun b => if Own ρ1 b then w1.heap[b]? else F1 b
      have F'o : ∀ b, Own ρ1 b → F' b = w1.heap[b]? := fun b o => if_pos o
      have F'n : ∀ b, ¬ Own ρ1 b → F' b = F1 b := fun b o => if_neg o
      have seen1 : Sees F' w1 := by
        intro b o hb
        by_cases ho : Own ρ1 b
        · rw [F'o b ho] at hb; exact hb
        · rw [F'n b ho] at hb
          exact (same b (seen_lt hw hb) fun o => ho (up b o)).trans (hw b o hb)
      have kept : ∀ b o, F b = some o → ¬ Own ρ1 b := by
        intro b o hb ho
        rcases own1 b ho with ho | l
        · rw [(h.own b ho).1] at hb; cases hb
        · have := seen_lt hw (h.keep b o hb)
          omega
      have rng1 : ∀ b b', ρ1.rel b b' → (F' b').isSome = true := by
        intro b b' r
        by_cases ho : Own ρ1 b'
        · rw [F'o b' ho]
          have := (hw1.lt r).2
          rw [Array.getElem?_eq_getElem this]
          rfl
        · rw [F'n b' ho]
          rcases hd.news b b' r with r0 | o
          · exact h.rng b b' r0
          · exact (ho ⟨b, o, r⟩).elim
      have hG1 : ρ1.g0 = ρg := hd.le.2.2.trans hgz
      refine ⟨G fr1 cs1, F', w1, es1, hy, ⟨hd.size, seen1, fun b l hF => ?_, fun k k1 kJ b rb l => ?_, fun b hb => ?_, fun e he' => ?_, ⟨hd.os, hd.output⟩⟩, T, hT, ρ1, hG1, ⟨fr1, cs1, rfl, st1⟩, fun w2 hw2 => ?_, ?_, fun g hg => hd.le.1 _ _ (h.hg g hg), rng1, fun b' ho => ?_, fun b o hb => ?_⟩
      · exact same b l fun o => none_of hF (ownF b o)
      · refine .inl (same b ?_ fun o => ?_)
        · have := hk.bn k k1 kJ
          omega
        · have := (h.own b o).2 k k1 kJ
          omega
      · by_cases ho : Own ρ1 b
        · rcases own1 b ho with ho | l
          · exact .inl (ownF b ho)
          · exact .inr l
        · rw [F'n b ho] at hb
          exact .inl hb
      · have rel1 : ∀ b b', ρ1.rel b b' → (F1 b').isSome = true ∨ w.heap.size ≤ b' := by
          intro b b' r
          rcases hd.fresh b b' r with r0 | ⟨_, l⟩
          · exact .inl (h.rng b b' r0)
          · exact .inr l
        rcases hev e he' with ⟨e1, ad, ad', e2, ra, _, e3⟩ | ⟨e0, e1, b, b', e2, r, o⟩ | e1
        · refine .inl ⟨e1, ad', e2, (hw1.lt ra.1).2, rel1 _ _ ra.1, fun hwr' k k1 kJ hro => ?_⟩
          have hl := hk.rl k k1 kJ _ hro.2
          rcases own1 _ ⟨_, e3 hwr', ra.1⟩ with ho | l
          · have := (h.own _ ho).2 k k1 kJ
            omega
          · have := hk.bn k k1 kJ
            omega
        · exact .inr (.inl ⟨e0, e1, b', e2, (hw1.lt r).2, rel1 _ _ r⟩)
        · exact .inr (.inr e1)
      · refine hw1.wh.turn ?_ fun b b' r => ?_
        · rw [hG1, ← hg0]
          cases hz : P.globals.size with
          | zero => exact Nat.zero_le _
          | succ n =>
            have r := hd.le.1 _ _ (h.hg n (by omega))
            have := rng1 n n r
            cases e : F' n with
            | none => rw [e] at this; cases this
            | some o => have := seen_lt hw2 e; omega
        · have := rng1 b b' r
          cases e : F' b' with
          | none => rw [e] at this; cases this
          | some o => rw [hw2 b' o e, seen1 b' o e]
      · rw [hG1, ← hg0]
        exact Nat.le_refl _
      · rcases own1 b' ho with ho | l
        · exact h.own b' ho
        · refine ⟨?_, fun k k1 kJ => Nat.le_trans (hk.bn k k1 kJ) l⟩
          cases e : F b' with
          | none => rfl
          | some o =>
            have := seen_lt hw (h.keep b' o e)
            omega
      · rw [F'n b (kept b o hb)]
        exact h.keep b o hb
end
end Go.Proofs.YtgjhmbbbkkidlaaGreatDoor.sim
