/-
  The state of the semicolon script: two printers and two wanted rows, all in blocks of their own, and how each step carries it on.
  Conditions: none beyond those of the steps.
-/
import Derived.Test.YtgoffcpchgepeaaScript
namespace Go.Proofs.Ytgoffcpchgepeaa.script
open Go.ChangeShapes Go.WideShapes Go.ChangeAt Go.RowKit
open kit pr semi

def From (B : Nat) (a : Option Addr) : Prop := ∀ k, a.map (·.block) = some k → B ≤ k
theorem From.new {B : Nat} {w : World} {a a2 : Option Addr} (h : From B a) (hn : NewRow w a a2) (hB : B ≤ w.heap.size) : From B a2 := by
  intro k hk
  rcases hn with e | ⟨q, hq, e⟩
  · exact h k (by rw [← e]; exact hk)
  · rw [e] at hk
    injection hk with hk
    omega

/-- two printers at g1 (minifying) and g2, and two wanted rows -/
structure St (B g1 g2 : Nat) (w : World) (X : List Int) (bx : Bool) (Y : List Int) (m7 : Option Addr) (c7 : Nat) (M : List Int) (m8 : Option Addr) (c8 : Nat) (W : List Int) : Prop where
  hB : B ≤ w.heap.size
  hg1 : B ≤ g1
  hg2 : B ≤ g2
  hne : g1 ≠ g2
  o7 : OwnB w m7 c7 M
  o8 : OwnB w m8 c8 W
  f7 : From B m7
  f8 : From B m8
  s78 : Sep m7 m8
  ex : ∃ a1 a2, Sp w g1 a1 X true bx ∧ Sp w g2 a2 Y false false ∧ From B a1 ∧ From B a2 ∧ Sep a1 a2 ∧ Sep a1 m7 ∧ Sep a1 m8 ∧ Sep a2 m7 ∧ Sep a2 m8

section
variable {B g1 g2 : Nat} {w : World} {X : List Int} {bx : Bool} {Y : List Int} {m7 : Option Addr} {c7 : Nat} {M : List Int} {m8 : Option Addr} {c8 : Nat} {W : List Int}

theorem St.pm (h : St B g1 g2 w X bx Y m7 c7 M m8 c8 W) {F : Nat} {args : Array Value} {X' : List Int} {b' : Bool} (hc : ∀ a, Sp w g1 a X true bx → Calls Try.prog F args w (Did w g1 a X' true b')) :
    Calls Try.prog F args w fun e w2 => e = .returned (.tuple #[]) ∧ St B g1 g2 w2 X' b' Y m7 c7 M m8 c8 W ∧ Below B w w2 := by
  obtain ⟨a1, a2, p1, p2, f1, f2, s12, s17, s18, s27, s28⟩ := h.ex
  refine (hc a1 p1).mono ?_
  rintro e w2 ⟨a1', rfl, p1', hs⟩
  obtain ⟨c1, o1⟩ := p1.own
  obtain ⟨c2, o2⟩ := p2.own
  refine ⟨rfl, ⟨Nat.le_trans h.hB hs.size, h.hg1, h.hg2, h.hne, h.o7.step hs (p1.ne h.o7) s17, h.o8.step hs (p1.ne h.o8) s18, h.f7, h.f8, h.s78,
    a1', a2, p1', p2.step hs (fun e => h.hne e.symm) (p2.ne o1) (p1.ne o2) s12, f1.new hs.row h.hB, f2, s12.new hs.row p2.lt, s17.new hs.row h.o7.lt, s18.new hs.row h.o8.lt, s27, s28⟩,
    hs.below h.hg1 f1 h.hB⟩
theorem St.pw (h : St B g1 g2 w X bx Y m7 c7 M m8 c8 W) {F : Nat} {args : Array Value} {Y' : List Int} (hc : ∀ a, Sp w g2 a Y false false → Calls Try.prog F args w (Did w g2 a Y' false false)) :
    Calls Try.prog F args w fun e w2 => e = .returned (.tuple #[]) ∧ St B g1 g2 w2 X bx Y' m7 c7 M m8 c8 W ∧ Below B w w2 := by
  obtain ⟨a1, a2, p1, p2, f1, f2, s12, s17, s18, s27, s28⟩ := h.ex
  refine (hc a2 p2).mono ?_
  rintro e w2 ⟨a2', rfl, p2', hs⟩
  obtain ⟨c1, o1⟩ := p1.own
  obtain ⟨c2, o2⟩ := p2.own
  refine ⟨rfl, ⟨Nat.le_trans h.hB hs.size, h.hg1, h.hg2, h.hne, h.o7.step hs (p2.ne h.o7) s27, h.o8.step hs (p2.ne h.o8) s28, h.f7, h.f8, h.s78,
    a1, a2', p1.step hs h.hne (p1.ne o2) (p2.ne o1) s12.symm, p2', f1, f2.new hs.row h.hB, (s12.symm.new hs.row p1.lt).symm, s17, s18, s27.new hs.row h.o7.lt, s28.new hs.row h.o8.lt⟩,
    hs.below h.hg2 f2 h.hB⟩
theorem ne_size {a : Option Addr} {w : World} (h : ∀ k, a.map (·.block) = some k → k < w.heap.size) : a.map (·.block) ≠ some w.heap.size := fun e => Nat.lt_irrefl _ (h _ e)
theorem St.row7 (h : St B g1 g2 w X bx Y m7 c7 M m8 c8 W) {w2 : World} {m7' : Option Addr} {c7' : Nat} {M' : List Int} (ho : OwnB w2 m7' c7' M') (hs : Step w w2 w.heap.size m7 m7') :
    St B g1 g2 w2 X bx Y m7' c7' M' m8 c8 W ∧ Below B w w2 := by
  obtain ⟨a1, a2, p1, p2, f1, f2, s12, s17, s18, s27, s28⟩ := h.ex
  refine ⟨⟨Nat.le_trans h.hB hs.size, h.hg1, h.hg2, h.hne, ho, h.o8.step hs (ne_size h.o8.lt) h.s78, h.f7.new hs.row h.hB, h.f8, h.s78.new hs.row h.o8.lt,
    a1, a2, p1.step hs (Nat.ne_of_lt p1.glt) (p1.ne h.o7) (ne_size p1.lt) s17.symm, p2.step hs (Nat.ne_of_lt p2.glt) (p2.ne h.o7) (ne_size p2.lt) s27.symm, f1, f2, s12, (s17.symm.new hs.row p1.lt).symm, s18, (s27.symm.new hs.row p2.lt).symm, s28⟩,
    hs.below h.hB h.f7 h.hB⟩
theorem St.row8 (h : St B g1 g2 w X bx Y m7 c7 M m8 c8 W) {w2 : World} {m8' : Option Addr} {c8' : Nat} {W' : List Int} (ho : OwnB w2 m8' c8' W') (hs : Step w w2 w.heap.size m8 m8') :
    St B g1 g2 w2 X bx Y m7 c7 M m8' c8' W' ∧ Below B w w2 := by
  obtain ⟨a1, a2, p1, p2, f1, f2, s12, s17, s18, s27, s28⟩ := h.ex
  refine ⟨⟨Nat.le_trans h.hB hs.size, h.hg1, h.hg2, h.hne, h.o7.step hs (ne_size h.o7.lt) h.s78.symm, ho, h.f7, h.f8.new hs.row h.hB, (h.s78.symm.new hs.row h.o7.lt).symm,
    a1, a2, p1.step hs (Nat.ne_of_lt p1.glt) (p1.ne h.o8) (ne_size p1.lt) s18.symm, p2.step hs (Nat.ne_of_lt p2.glt) (p2.ne h.o8) (ne_size p2.lt) s28.symm, f1, f2, s12, s17, (s18.symm.new hs.row p1.lt).symm, s27, (s28.symm.new hs.row p2.lt).symm⟩,
    hs.below h.hB h.f8 h.hB⟩
theorem St.kept (h : St B g1 g2 w X bx Y m7 c7 M m8 c8 W) {w2 : World} (hk : Kept w w2) : St B g1 g2 w2 X bx Y m7 c7 M m8 c8 W := by
  obtain ⟨a1, a2, p1, p2, f1, f2, s12, s17, s18, s27, s28⟩ := h.ex
  have hs : Step w w2 w.heap.size none none := Step.of_kept hk _ _
  exact ⟨Nat.le_trans h.hB hk.size, h.hg1, h.hg2, h.hne, h.o7.step hs (ne_size h.o7.lt) (Sep.none_left _), h.o8.step hs (ne_size h.o8.lt) (Sep.none_left _), h.f7, h.f8, h.s78,
    a1, a2, p1.step hs (Nat.ne_of_lt p1.glt) (by simp) (ne_size p1.lt) (Sep.none_left _), p2.step hs (Nat.ne_of_lt p2.glt) (by simp) (ne_size p2.lt) (Sep.none_left _), f1, f2, s12, s17, s18, s27, s28⟩
end

/-- append of a string onto a row of the call's own, by OwnB -/
theorem wp_append_string {ops : Array Oper} {rest : List Oper} {o : Oper} {a : Act} {Q : Exit → Act → World → Prop} (w : World) (hgd : o.guard = none) (sl x : Operand)
    (ho : o.op = .call { callee := .builtin .append, args := #[sl, x], argTypes := #[22, 9] })
    (A : Option Addr) (c : Nat) (xs : List Int) (hs : a.eval sl = .slice A xs.length c) (hown : OwnB w A c xs) (s : ByteArray) (hx : a.eval x = .string s) (hb : xs.length + s.size ≤ 70368744177664)
    (h : ∀ A2 c2 w2, OwnB w2 A2 c2 (xs ++ bytesOf s) → Step w w2 w.heap.size A A2 → wpList Try.prog ops Q rest (a.put o.dst (.slice A2 (xs ++ bytesOf s).length c2)) w2) :
    wpList Try.prog ops Q (o :: rest) a w := by
  refine wp_append_str w hgd sl x ho A xs.length c (xs.map (Value.int .u8)) hs hown s hx hb ?_
  intro A2 c2 w2 hn hown2 hgrow
  have hl : xs.length + s.size = (xs ++ bytesOf s).length := by rw [List.length_append, bytesOf_length]
  rw [hl, strCells_eq, ← List.map_append] at hown2
  rw [hl]
  exact h A2 c2 w2 hown2 (step_of_grown hgrow hn _)
end Go.Proofs.Ytgoffcpchgepeaa.script
