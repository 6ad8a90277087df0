/-
  The printer in memory over this seat's program: a block known whole whose field js is a row of bytes; appends onto such a row.
  Conditions: the output stays below 2^46 bytes.
-/
import Derived.Test.YteoeiklojidgnaaFmtBlk
import Derived.Lib.AppendStr
import Derived.OwnWalk
import Derived.Deep.AppendLies
import Derived.LoopTactic
namespace Go.Proofs.YteoeiklojidgnaaFmt.pr
open Go.ChangeShapes Go.WideShapes Go.ChangeAt Go.RowKit
open kit

theorem info5 : (Tryf.prog.info? 5).map (fun i => (i.zero, i.size, i.bytes)) = some (some (.int .u8 0), 1, 1) := by kernel_rfl

/-- a string's bytes as numbers -/
def bytesOf (s : ByteArray) : List Int := s.data.toList.map fun b => (b.toNat : Int)
theorem bytesOf_length (s : ByteArray) : (bytesOf s).length = s.size := by
  rw [bytesOf, List.length_map, Array.length_toList]; rfl
theorem strCells_eq (s : ByteArray) : Lib.strCells s = (bytesOf s).map (Value.int .u8) := by
  simp [Lib.strCells, bytesOf, List.map_map, Function.comp_def]

/-- the row lies where it lay, or in a block that is new -/
def NewRow (w : World) (a a2 : Option Addr) : Prop := a2.map (·.block) = a.map (·.block) ∨ ∃ k, w.heap.size ≤ k ∧ a2.map (·.block) = some k

/-- append of a string's bytes onto a row that the call owns: the row stays or moves to a new block -/
theorem run_append_str (w : World) (ty : TypeId) (A : Option Addr) (n c : Nat) (xs : List Value) (hown : w.ownsRow 0 5 1 (.slice A n c) n xs) (s : ByteArray) (hb : n + s.size ≤ 70368744177664) :
    ∃ A2 c2 w2, (Builtin.append_ #[22, 9] ty #[.slice A n c, .string s]).run Tryf.prog w = .ok (.slice A2 (n + s.size) c2) w2 ∧
      NewRow w A A2 ∧ w2.ownsRow 0 5 1 (.slice A2 (n + s.size) c2) (n + s.size) (xs ++ Lib.strCells s) ∧ w.grownBy w2 (Value.ownBlock (.slice A n c)) := by
  obtain ⟨i0, hi, hz0, hz1, hz2⟩ := info_parts info5
  have hm : n + s.size ≤ maxLen := by unfold maxLen; omega
  obtain ⟨v2, w2, hr, h2, h3, h4⟩ := Lib.run_append_own_string (P := Tryf.prog) w 0 22 9 ty 5 i0 Tryf.underlying22 Tryf.underlying9 hi hz0 hz1 hz2 _ n xs hown s hm (by omega) (Nat.zero_le _)
  have hv : ∃ A2 c2, v2 = .slice A2 (n + s.size) c2 := by
    rcases h2.2 with ⟨e1, e2⟩ | ⟨g, cap, cur, e1, _⟩
    · exact ⟨none, 0, by rw [e1, e2]⟩
    · exact ⟨_, _, e1⟩
  obtain ⟨A2, c2, rfl⟩ := hv
  refine ⟨A2, c2, w2, hr, ?_, h2, h3⟩
  rcases hown.2 with ⟨e1, e2⟩ | ⟨g, cap, cur, e1, _, hg, hnc, hcm, hcs, htake⟩
  · injection e1 with a1 a2 a3
    subst a1 a3 e2
    by_cases hs : s.size = 0
    · have := h4.2 ⟨rfl, hs⟩
      injection this with b1
      subst b1
      exact .inl rfl
    · have hr2 := run_append_nil_string (P := Tryf.prog) w 22 9 ty 5 i0 (.int .u8 0) Tryf.underlying22 Tryf.underlying9 hi hz0 s (by omega) (by omega) (by rw [hz2]; omega)
      rw [hr2] at hr
      injection hr with b1
      injection b1 with b2
      exact .inr ⟨w.heap.size, Nat.le_refl _, by rw [← b2]; rfl⟩
  · injection e1 with a1 a2 a3
    subst a1 a3
    by_cases hroom : n + s.size ≤ c
    · have hr2 := Lib.run_append_room_string (P := Tryf.prog) w 22 9 ty 5 i0 Tryf.underlying22 Tryf.underlying9 hi hz1 g n c cur hg s hroom (by rw [hcs]; omega)
      rw [hr2] at hr
      injection hr with b1
      injection b1 with b2
      subst b2
      exact .inl rfl
    · have hx : xs.length = n := by simpa using hown.1
      have hr2 := Lib.run_append_grow_string (P := Tryf.prog) w 22 9 ty 5 i0 (.int .u8 0) Tryf.underlying22 Tryf.underlying9 hi hz0 ⟨g, 0, none⟩ n c xs (by rw [hz1]; simpa using hx) (hown.cells (g := g) rfl) s (by omega) (by omega) (by rw [hz2]; exact growslice_fits (by omega) (by omega))
      rw [hr2] at hr
      injection hr with b1
      injection b1 with b2
      exact .inr ⟨w.heap.size, Nat.le_refl _, by rw [← b2]; rfl⟩

theorem wp_append_str {ops : Array Oper} {rest : List Oper} {o : Oper} {a : Act} {Q : Exit → Act → World → Prop} (w : World) (hgd : o.guard = none) (sl x : Operand)
    (ho : o.op = .call { callee := .builtin .append, args := #[sl, x], argTypes := #[22, 9] })
    (A : Option Addr) (n c : Nat) (xs : List Value) (hs : a.eval sl = .slice A n c) (hown : w.ownsRow 0 5 1 (.slice A n c) n xs) (s : ByteArray) (hx : a.eval x = .string s) (hb : n + s.size ≤ 70368744177664)
    (h : ∀ A2 c2 w2, NewRow w A A2 → w2.ownsRow 0 5 1 (.slice A2 (n + s.size) c2) (n + s.size) (xs ++ Lib.strCells s) → w.grownBy w2 (Value.ownBlock (.slice A n c)) → wpList Tryf.prog ops Q rest (a.put o.dst (.slice A2 (n + s.size) c2)) w2) :
    wpList Tryf.prog ops Q (o :: rest) a w := by
  refine wpList_plain hgd fun K hK => ?_
  obtain ⟨A2, c2, w2, hr, h1, h2, h3⟩ := run_append_str w o.type A n c xs hown s hb
  unfold Oper.wp execOp
  simp only [ho, resolve, invoke, builtin, Sem.run_bind, Sem.run_pure, Result.andThen_ok, List.map_toArray, List.map_cons, List.map_nil, hs, hx, hr]
  exact hK _ _ (h A2 c2 w2 h1 h2 h3)

/-- where the field js lies in a printer -/
def J : Nat := 9

structure Pr (w : World) (g : Nat) (cs : List Value) (a : Option Addr) (c : Nat) (xs : List Int) : Prop where
  blk : Blk w g 88 cs
  js : cs[J]? = some (.slice a xs.length c)
  own : w.ownsRow 0 5 1 (.slice a xs.length c) xs.length (xs.map (Value.int .u8))

/-- what a step on a printer may turn: its own block and its row; the row stays or is new -/
structure Step (w w2 : World) (g : Nat) (a a2 : Option Addr) : Prop where
  os : w2.os = w.os
  tape : w2.tape = w.tape
  output : w2.output = w.output
  size : w.heap.size ≤ w2.heap.size
  block : ∀ k, k < w.heap.size → k ≠ g → a.map (·.block) ≠ some k → w2.heap[k]? = w.heap[k]?
  row : NewRow w a a2

theorem Step.refl (w : World) (g : Nat) (a : Option Addr) : Step w w g a a := ⟨rfl, rfl, rfl, Nat.le_refl _, fun _ _ _ _ => rfl, .inl rfl⟩
theorem NewRow.ne {w : World} {a a2 : Option Addr} (h : NewRow w a a2) {k : Nat} (hk : k < w.heap.size) (hne : a.map (·.block) ≠ some k) : a2.map (·.block) ≠ some k := by
  rcases h with h | ⟨q, hq, h⟩
  · rw [h]; exact hne
  · rw [h]
    intro e
    injection e with e
    omega
theorem NewRow.trans {w w1 : World} {a a1 a2 : Option Addr} (hs : w.heap.size ≤ w1.heap.size) (h : NewRow w a a1) (k : NewRow w1 a1 a2) : NewRow w a a2 := by
  rcases k with e | ⟨q, hq, e⟩
  · rcases h with e2 | ⟨q, hq, e2⟩
    · exact .inl (e.trans e2)
    · exact .inr ⟨q, hq, e.trans e2⟩
  · exact .inr ⟨q, Nat.le_trans hs hq, e⟩
theorem Step.trans {w w1 w2 : World} {g : Nat} {a a1 a2 : Option Addr} (h : Step w w1 g a a1) (k : Step w1 w2 g a1 a2) : Step w w2 g a a2 :=
  ⟨k.os.trans h.os, k.tape.trans h.tape, k.output.trans h.output, Nat.le_trans h.size k.size,
    fun b hb hg ha => (k.block b (Nat.lt_of_lt_of_le hb h.size) hg (h.row.ne hb ha)).trans (h.block b hb hg ha), h.row.trans h.size k.row⟩
theorem Step.drew {w w1 : World} {g : Nat} {a a1 : Option Addr} (h : Step w w1 g a a1) : Step w w1.drew g a a1 := ⟨h.os, h.tape, h.output, h.size, h.block, h.row⟩
theorem Step.alloc {w w1 : World} {g : Nat} {a a1 : Option Addr} (h : Step w w1 g a a1) (o : Obj) : Step w (w1.alloc o) g a a1 :=
  ⟨h.os, h.tape, h.output, Nat.le_trans h.size (by simp), fun b hb hg ha => (Below.heap_alloc w1 o b (Nat.lt_of_lt_of_le hb h.size)).trans (h.block b hb hg ha), h.row⟩
theorem Step.setCell {w w1 : World} {g : Nat} {a a1 : Option Addr} (h : Step w w1 g a a1) (i : Nat) (u : Value) : Step w (w1.setCell ⟨g, i, none⟩ u) g a a1 :=
  ⟨h.os, h.tape, h.output, by simpa [World.setCell] using h.size, fun b hb hg ha => (Below.heap_setCell w1 ⟨g, i, none⟩ u b hg).trans (h.block b hb hg ha), h.row⟩
/-- from a block number on, all is the call's own -/
theorem Step.below {w w1 : World} {g B : Nat} {a a1 : Option Addr} (h : Step w w1 g a a1) (hg : B ≤ g) (ha : ∀ k, a.map (·.block) = some k → B ≤ k) (hB : B ≤ w.heap.size) : Below B w w1 :=
  ⟨h.os, h.tape, h.output, h.size, fun k hk => h.block k (by omega) (by omega) (fun e => by have := ha k e; omega)⟩
theorem Step.from {w w1 : World} {g B : Nat} {a a1 : Option Addr} (h : Step w w1 g a a1) (ha : ∀ k, a.map (·.block) = some k → B ≤ k) (hB : B ≤ w.heap.size) : ∀ k, a1.map (·.block) = some k → B ≤ k := by
  intro k hk
  rcases h.row with e | ⟨q, hq, e⟩
  · exact ha k (by rw [← e]; exact hk)
  · rw [e] at hk
    injection hk with hk
    omega
theorem Pr.rowLt {w : World} {g : Nat} {cs : List Value} {a : Option Addr} {c : Nat} {xs : List Int} (h : Pr w g cs a c xs) : ∀ k, a.map (·.block) = some k → k < w.heap.size := by
  intro k hk
  rcases a with _ | ad
  · cases hk
  · injection hk with hk
    exact (h.own.lt k (by simpa [Value.ownBlock] using hk)).2
theorem Pr.rowNe {w : World} {g : Nat} {cs : List Value} {a : Option Addr} {c : Nat} {xs : List Int} (h : Pr w g cs a c xs) {g2 : Nat} {t : TypeId} {cs2 : List Value} (hb : Blk w g2 t cs2) (ht : 5 ≠ t) : a.map (·.block) ≠ some g2 := by
  intro e
  refine hb.notOwned h.own ht ?_
  rcases a with _ | ad
  · cases e
  · injection e with e
    simp [Value.ownBlock, e]
/-- another printer is left alone -/
theorem Pr.other {w w2 : World} {g g1 : Nat} {cs : List Value} {a a1 a2 : Option Addr} {c : Nat} {xs : List Int} (h : Pr w g cs a c xs) (hs : Step w w2 g1 a1 a2) (hg : g ≠ g1) (h1 : a1.map (·.block) ≠ some g)
    (hn : ∀ k, a.map (·.block) = some k → k ≠ g1 ∧ a1.map (·.block) ≠ some k) : Pr w2 g cs a c xs := by
  refine ⟨(hs.block g h.blk.lt hg h1).trans h.blk, h.js, ?_⟩
  refine ⟨h.own.1, ?_⟩
  rcases h.own.2 with e | ⟨q, cap, cur, e1, e2, hh, r⟩
  · exact Or.inl e
  · refine Or.inr ⟨q, cap, cur, e1, e2, ?_, r⟩
    injection e1 with ea
    have hk : a.map (·.block) = some q := by rw [ea]; rfl
    exact (hs.block q (h.rowLt q hk) (hn q hk).1 (hn q hk).2).trans hh
theorem Pr.kept {w w2 : World} {g : Nat} {cs : List Value} {a : Option Addr} {c : Nat} {xs : List Int} (h : Pr w g cs a c xs) (hk : Kept w w2) : Pr w2 g cs a c xs := ⟨h.blk.kept hk, h.js, own_kept h.own hk⟩
theorem Pr.jcell {w : World} {g : Nat} {cs : List Value} {a : Option Addr} {c : Nat} {xs : List Int} (h : Pr w g cs a c xs) : w.cell? ⟨g, J, none⟩ = some (.slice a xs.length c) := by
  rw [h.blk.cell]; exact h.js
theorem Pr.jlt {w : World} {g : Nat} {cs : List Value} {a : Option Addr} {c : Nat} {xs : List Int} (h : Pr w g cs a c xs) : J < cs.length := by
  apply Classical.byContradiction
  intro hn
  have := h.js
  rw [List.getElem?_eq_none (by omega)] at this
  cases this
theorem Step.of_kept {w w2 : World} (h : Kept w w2) (g : Nat) (a : Option Addr) : Step w w2 g a a := ⟨h.os, h.tape, h.output, h.size, fun k hk _ _ => h.block k hk, .inl rfl⟩

/-- two rows lie in different blocks -/
def Sep (a b : Option Addr) : Prop := ∀ k, a.map (·.block) = some k → b.map (·.block) ≠ some k
theorem Sep.symm {a b : Option Addr} (h : Sep a b) : Sep b a := fun k hk he => h k he hk
theorem Sep.new {w : World} {a a2 b : Option Addr} (hn : NewRow w a a2) (h : Sep a b) (hb : ∀ k, b.map (·.block) = some k → k < w.heap.size) : Sep a2 b := by
  intro k hk he
  rcases hn with e | ⟨q, hq, e⟩
  · exact h k (by rw [← e]; exact hk) he
  · rw [e] at hk
    injection hk with hk
    have := hb k he
    omega
theorem Sep.none_left (b : Option Addr) : Sep none b := fun k hk => by cases hk
/-- a row of bytes of the call's own -/
def OwnB (w : World) (a : Option Addr) (c : Nat) (ys : List Int) : Prop := w.ownsRow 0 5 1 (.slice a ys.length c) ys.length (ys.map (Value.int .u8))
theorem OwnB.lt {w : World} {a : Option Addr} {c : Nat} {ys : List Int} (h : OwnB w a c ys) : ∀ k, a.map (·.block) = some k → k < w.heap.size := fun k hk => (own_lt h k hk).2
theorem OwnB.keep {w w2 : World} {a : Option Addr} {c : Nat} {ys : List Int} (h : OwnB w a c ys) (hk : ∀ k, k < w.heap.size → a.map (·.block) = some k → w2.heap[k]? = w.heap[k]?) : OwnB w2 a c ys := by
  refine ⟨h.1, ?_⟩
  rcases h.2 with e | ⟨q, cap, cur, e1, e2, hh, r⟩
  · exact Or.inl e
  · refine Or.inr ⟨q, cap, cur, e1, e2, ?_, r⟩
    injection e1 with ea
    have hq : a.map (·.block) = some q := by rw [ea]; rfl
    exact (hk q (h.lt q hq) hq).trans hh
theorem OwnB.ne {w : World} {a : Option Addr} {c : Nat} {ys : List Int} (h : OwnB w a c ys) {g : Nat} {cs : List Value} (hb : Blk w g 88 cs) : a.map (·.block) ≠ some g := by
  intro e
  refine hb.notOwned h (by decide) ?_
  rcases a with _ | ad
  · cases e
  · injection e with e
    simp [Value.ownBlock, e]
theorem OwnB.step {w w2 : World} {g : Nat} {a b b2 : Option Addr} {c : Nat} {ys : List Int} (h : OwnB w a c ys) (hs : Step w w2 g b b2) (hg : a.map (·.block) ≠ some g) (hsep : Sep b a) : OwnB w2 a c ys :=
  h.keep fun k hk he => hs.block k hk (fun e => hg (by rw [← e]; exact he)) (fun e => hsep k e he)
theorem step_of_grown {w w2 : World} {a a2 : Option Addr} {n c : Nat} (hg : w.grownBy w2 (Value.ownBlock (.slice a n c))) (hn : NewRow w a a2) (g : Nat) : Step w w2 g a a2 :=
  ⟨hg.os, hg.tape, hg.output, hg.size, fun k hk _ hka => hg.block k hk (fun e => hka (by
    rcases a with _ | ad
    · cases e
    · simpa [Value.ownBlock] using e.symm)), hn⟩

/-- append of bytes that lie in memory onto a row of the call's own -/
theorem wp_append_row {ops : Array Oper} {rest : List Oper} {o : Oper} {a : Act} {Q : Exit → Act → World → Prop} (w : World) (hgd : o.guard = none) (sl x : Operand)
    (ho : o.op = .call { callee := .builtin .append, args := #[sl, x], argTypes := #[22, 22] })
    (A : Option Addr) (c : Nat) (xs : List Int) (hs : a.eval sl = .slice A xs.length c) (hown : OwnB w A c xs) (ad : Addr) (m d : Nat) (ys : List Int) (hx : a.eval x = .slice (some ad) m d) (hm : ys.length = m) (h0 : 0 < m)
    (hcell : ∀ j u, (ys.map (Value.int .u8))[j]? = some u → w.cell? (ad.add j) = some u) (hb : xs.length + m ≤ 70368744177664)
    (h : ∀ A2 c2 w2, NewRow w A A2 → OwnB w2 A2 c2 (xs ++ ys) → Step w w2 w.heap.size A A2 → wpList Tryf.prog ops Q rest (a.put o.dst (.slice A2 (xs ++ ys).length c2)) w2) :
    wpList Tryf.prog ops Q (o :: rest) a w := by
  obtain ⟨i0, hi, hz0, hz1, hz2⟩ := info_parts info5
  refine wpList_plain hgd fun K hK => ?_
  refine wp_append_lies (P := Tryf.prog) w sl x 22 ho 0 5 i0 (.int .u8 0) 1 1 Tryf.underlying22 hi hz0 hz1 hz2 rfl (by decide) _ xs.length (xs.map (Value.int .u8)) hs hown ad m d (ys.map (Value.int .u8)) hx (by simpa using hm) hcell ?_ h0 (by unfold maxLen; omega) (by omega) (Nat.zero_le _) _ rfl ?_
  · intro u hu
    obtain ⟨y, _, rfl⟩ := List.mem_map.1 hu
    rfl
  · intro g cap w2 hown2 hgrow hat hlt
    have hl : xs.length + m = (xs ++ ys).length := by rw [List.length_append, hm]
    rw [hl] at hown2 ⊢
    rw [← List.map_append] at hown2
    have hn : NewRow w A (some ⟨g, 0, none⟩) := by
      rcases hat with e | e
      · left
        rcases A with _ | ad2
        · cases e
        · simp [Value.ownBlock] at e
          simp [e]
      · right
        exact ⟨g, by omega, rfl⟩
    exact hK _ _ (h _ _ _ hn hown2 (step_of_grown hgrow hn _))
/-- append of a string onto a row of the call's own, by OwnB -/
theorem wp_append_string {ops : Array Oper} {rest : List Oper} {o : Oper} {a : Act} {Q : Exit → Act → World → Prop} (w : World) (hgd : o.guard = none) (sl x : Operand)
    (ho : o.op = .call { callee := .builtin .append, args := #[sl, x], argTypes := #[22, 9] })
    (A : Option Addr) (c : Nat) (xs : List Int) (hs : a.eval sl = .slice A xs.length c) (hown : OwnB w A c xs) (s : ByteArray) (hx : a.eval x = .string s) (hb : xs.length + s.size ≤ 70368744177664)
    (h : ∀ A2 c2 w2, OwnB w2 A2 c2 (xs ++ bytesOf s) → Step w w2 w.heap.size A A2 → wpList Tryf.prog ops Q rest (a.put o.dst (.slice A2 (xs ++ bytesOf s).length c2)) w2) :
    wpList Tryf.prog ops Q (o :: rest) a w := by
  refine wp_append_str w hgd sl x ho A xs.length c (xs.map (Value.int .u8)) hs hown s hx hb ?_
  intro A2 c2 w2 hn hown2 hgrow
  have hl : xs.length + s.size = (xs ++ bytesOf s).length := by rw [List.length_append, bytesOf_length]
  rw [hl, strCells_eq, ← List.map_append] at hown2
  rw [hl]
  exact h A2 c2 w2 hown2 (step_of_grown hgrow hn _)
theorem step_any {w w2 : World} {a a2 : Option Addr} (h : Step w w2 w.heap.size a a2) (g : Nat) : Step w w2 g a a2 :=
  ⟨h.os, h.tape, h.output, h.size, fun k hk _ hka => h.block k hk (Nat.ne_of_lt hk) hka, h.row⟩
/-- the two laws of append, the new content under a name of its own -/
theorem wp_append_stringL {ops : Array Oper} {rest : List Oper} {o : Oper} {a : Act} {Q : Exit → Act → World → Prop} (w : World) (hgd : o.guard = none) (sl x : Operand)
    (ho : o.op = .call { callee := .builtin .append, args := #[sl, x], argTypes := #[22, 9] })
    (A : Option Addr) (c : Nat) (xs : List Int) (hs : a.eval sl = .slice A xs.length c) (hown : OwnB w A c xs) (s : ByteArray) (hx : a.eval x = .string s) (hb : xs.length + s.size ≤ 70368744177664)
    (h : ∀ A2 c2 w2 L, Hid (OwnB w2 A2 c2 L ∧ L = xs ++ bytesOf s) → Hid (∀ g, Step w w2 g A A2) → wpList Tryf.prog ops Q rest (a.put o.dst (.slice A2 L.length c2)) w2) :
    wpList Tryf.prog ops Q (o :: rest) a w :=
  wp_append_string w hgd sl x ho A c xs hs hown s hx hb (fun A2 c2 w2 h1 h2 => h A2 c2 w2 _ (Lib.hid ⟨h1, rfl⟩) (Lib.hid (step_any h2)))
theorem wp_append_rowL {ops : Array Oper} {rest : List Oper} {o : Oper} {a : Act} {Q : Exit → Act → World → Prop} (w : World) (hgd : o.guard = none) (sl x : Operand)
    (ho : o.op = .call { callee := .builtin .append, args := #[sl, x], argTypes := #[22, 22] })
    (A : Option Addr) (c : Nat) (xs : List Int) (hs : a.eval sl = .slice A xs.length c) (hown : OwnB w A c xs) (ad : Addr) (m d : Nat) (ys : List Int) (hx : a.eval x = .slice (some ad) m d) (hm : ys.length = m) (h0 : 0 < m)
    (hcell : ∀ j u, (ys.map (Value.int .u8))[j]? = some u → w.cell? (ad.add j) = some u) (hb : xs.length + m ≤ 70368744177664)
    (h : ∀ A2 c2 w2 L, Hid (OwnB w2 A2 c2 L ∧ L = xs ++ ys) → Hid (∀ g, Step w w2 g A A2) → wpList Tryf.prog ops Q rest (a.put o.dst (.slice A2 L.length c2)) w2) :
    wpList Tryf.prog ops Q (o :: rest) a w :=
  wp_append_row w hgd sl x ho A c xs hs hown ad m d ys hx hm h0 hcell hb (fun A2 c2 w2 _ h1 h2 => h A2 c2 w2 _ (Lib.hid ⟨h1, rfl⟩) (Lib.hid (step_any h2)))
theorem cells_new (w : World) (t : TypeId) (ys : List Int) : ∀ j u, (ys.map (Value.int .u8))[j]? = some u → (w.alloc (.cells (ys.map (Value.int .u8)).toArray t)).cell? (Addr.add ⟨w.heap.size, 0, none⟩ j) = some u := by
  intro j u hu
  have e : (⟨w.heap.size, 0, none⟩ : Addr).add j = ⟨w.heap.size, j, none⟩ := by
    unfold Addr.add
    by_cases h : j = 0 <;> simp [h]
  rw [e, (Blk.new w t _).cell, hu]
end Go.Proofs.YteoeiklojidgnaaFmt.pr
