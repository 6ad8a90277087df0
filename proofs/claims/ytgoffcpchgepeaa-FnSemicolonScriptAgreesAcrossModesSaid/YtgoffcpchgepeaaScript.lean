/-
  Contracts of the semicolon helpers of n011_265 over this seat's program, with what they keep of the printer's options.
  Conditions: the output stays below 2^40 bytes.
-/
import Derived.Test.YtgoffcpchgepeaaLine
import Derived.Test.YtgoffcpchgepeaaSemi
import Derived.Deep.AppendLies
namespace Go.Proofs.Ytgoffcpchgepeaa.script
open Go.ChangeShapes Go.WideShapes Go.ChangeAt Go.RowKit
open kit pr semi

/-- a printer with its output, its flag of minifying and its pending semicolon -/
structure Sp (w : World) (g : Nat) (a : Option Addr) (xs : List Int) (mw b : Bool) : Prop where
  ex : ∃ cs c, Pr w g cs a c xs ∧ cs[28]? = some (.bool mw) ∧ cs[135]? = some (.bool b)

/-- what a step of the script leaves -/
def Did (w : World) (g : Nat) (a : Option Addr) (ys : List Int) (mw b : Bool) (e : Ending) (w2 : World) : Prop :=
  ∃ a2, e = .returned (.tuple #[]) ∧ Sp w2 g a2 ys mw b ∧ Step w w2 g a a2

theorem lt_of_some {cs : List Value} {i : Nat} {v : Value} (h : cs[i]? = some v) : i < cs.length := (List.getElem?_eq_some_iff.1 h).1

set_option maxHeartbeats 1000000 in
theorem ifNeeded (w : World) (g : Nat) (a : Option Addr) (xs : List Int) (mw b : Bool) (h : Sp w g a xs mw b) (hl : xs.length ≤ 1099511627776) :
    Calls Try.prog 69 #[.pointer (some ⟨g, 0, none⟩)] w (Did w g a (semiOut b xs) mw false) := by
  obtain ⟨cs, c, hp, h28, hb⟩ := h.ex
  have hc : w.cell? ⟨g, 135, none⟩ = some (.bool b) := by rw [hp.blk.cell]; exact hb
  have HP := Lib.hid hp
  have HB := Lib.hid hb
  have H28 := Lib.hid h28
  clear h hp hb h28
  cases b
  · go_enter Try.func69, Try.ntmps69
    go_wp2
    go_end0
    exact ⟨a, rfl, ⟨cs, c, HP.out, H28.out, HB.out⟩, Step.refl _ _ _⟩
  · go_enter Try.func69, Try.ntmps69
    go_wp2_with fail
    refine (print w g cs a c xs _ HP.out ?_).mono ?_
    · have : (⟨#[59]⟩ : ByteArray).size = 1 := rfl
      omega
    rintro e w2 ⟨a2, c2, rfl, hp, hs⟩
    have hbo : bytesOf ⟨#[59]⟩ = [59] := by decide
    rw [hbo] at hp
    have hc2 : w2.cell? ⟨g, 135, none⟩ = some (.bool true) := by
      rw [hp.blk.cell, List.getElem?_set_ne (by decide)]; exact HB.out
    have hf2 := hp.blk.free 135
    have HP2 := Lib.hid hp
    have HS := Lib.hid hs
    clear hp hs hc
    go_wp2
    go_end0
    have hp2 := HP2.out
    refine ⟨a2, rfl, ⟨_, c2, hp2.setOther (i := 135) (by decide) (.bool false), ?_, ?_⟩, HS.out.setCell _ _⟩
    · rw [List.getElem?_set_ne (by decide), List.getElem?_set_ne (by decide)]; exact H28.out
    · rw [List.getElem?_set_self (by rw [List.length_set]; exact lt_of_some HB.out)]

/-- the output behind printSemicolonAfterStatement -/
def aftOut (mw : Bool) (xs : List Int) : List Int := if mw then xs else xs ++ [59, 10]
set_option maxHeartbeats 1000000 in
theorem afterStmt (w : World) (g : Nat) (a : Option Addr) (xs : List Int) (mw : Bool) (h : Sp w g a xs mw false) (hl : xs.length ≤ 1099511627776) :
    Calls Try.prog 79 #[.pointer (some ⟨g, 0, none⟩)] w (Did w g a (aftOut mw xs) mw mw) := by
  obtain ⟨cs, c, hp, h28, hb⟩ := h.ex
  have hc28 : w.cell? ⟨g, 28, none⟩ = some (.bool mw) := by rw [hp.blk.cell]; exact h28
  have hc : w.cell? ⟨g, 135, none⟩ = some (.bool false) := by rw [hp.blk.cell]; exact hb
  have hf := hp.blk.free 135
  have HP := Lib.hid hp
  have HB := Lib.hid hb
  have H28 := Lib.hid h28
  clear h hp hb h28
  cases mw
  · go_enter Try.func79, Try.ntmps79
    go_wp2_with fail
    refine (print w g cs a c xs ⟨#[59, 10]⟩ HP.out ?_).mono ?_
    · have : (⟨#[59, 10]⟩ : ByteArray).size = 2 := rfl
      omega
    rintro e w2 ⟨a2, c2, rfl, hp, hs⟩
    have hbo : bytesOf ⟨#[59, 10]⟩ = [59, 10] := by decide
    rw [hbo] at hp
    have HP2 := Lib.hid hp
    have HS := Lib.hid hs
    clear hp hs hc hf
    go_wp2
    go_end0
    refine ⟨a2, rfl, ⟨_, c2, HP2.out, ?_, ?_⟩, HS.out⟩
    · rw [List.getElem?_set_ne (by decide)]; exact H28.out
    · rw [List.getElem?_set_ne (by decide)]; exact HB.out
  · go_enter Try.func79, Try.ntmps79
    go_wp2
    go_end0
    refine ⟨a, rfl, ⟨_, c, HP.out.setOther (i := 135) (by decide) (.bool true), ?_, ?_⟩, (Step.refl w g a).setCell _ _⟩
    · rw [List.getElem?_set_ne (by decide)]; exact H28.out
    · rw [List.getElem?_set_self (lt_of_some HB.out)]
theorem zzIfNeeded (w : World) (g : Nat) (a : Option Addr) (xs : List Int) (mw b : Bool) (h : Sp w g a xs mw b) (hl : xs.length ≤ 1099511627776) :
    Calls Try.prog 56 #[.pointer (some ⟨g, 0, none⟩)] w (Did w g a (semiOut b xs) mw false) := by
  have HC := Lib.hid (ifNeeded w g a xs mw b h hl)
  clear h
  go_enter Try.func56, Try.ntmps56
  go_wp2_with fail
  refine HC.out.mono ?_
  rintro e w2 ⟨a2, rfl, hr⟩
  have HR := Lib.hid hr
  clear hr
  go_wp2
  go_end0
  exact ⟨a2, rfl, HR.out⟩
theorem zzAfterStmt (w : World) (g : Nat) (a : Option Addr) (xs : List Int) (mw : Bool) (h : Sp w g a xs mw false) (hl : xs.length ≤ 1099511627776) :
    Calls Try.prog 57 #[.pointer (some ⟨g, 0, none⟩)] w (Did w g a (aftOut mw xs) mw mw) := by
  have HC := Lib.hid (afterStmt w g a xs mw h hl)
  clear h
  go_enter Try.func57, Try.ntmps57
  go_wp2_with fail
  refine HC.out.mono ?_
  rintro e w2 ⟨a2, rfl, hr⟩
  have HR := Lib.hid hr
  clear hr
  go_wp2
  go_end0
  exact ⟨a2, rfl, HR.out⟩
theorem zzPrintSp (w : World) (g : Nat) (a : Option Addr) (xs : List Int) (mw b : Bool) (s : ByteArray) (h : Sp w g a xs mw b) (hb : xs.length + s.size ≤ 70368744177664) :
    Calls Try.prog 46 #[.pointer (some ⟨g, 0, none⟩), .string s] w (Did w g a (xs ++ bytesOf s) mw b) := by
  obtain ⟨cs, c, hp, h28, h135⟩ := h.ex
  refine (line.zzprint w g cs a c xs s hp hb).mono ?_
  rintro e w2 ⟨a2, c2, h1, h2, h3⟩
  exact ⟨a2, h1, ⟨_, c2, h2, by rw [List.getElem?_set_ne (by decide)]; exact h28, by rw [List.getElem?_set_ne (by decide)]; exact h135⟩, h3⟩
theorem needs265 (w : World) (g : Nat) (a : Option Addr) (xs : List Int) (mw b : Bool) (h : Sp w g a xs mw b) :
    Calls Try.prog 59 #[.pointer (some ⟨g, 0, none⟩)] w fun e w' => e = .returned (.bool b) ∧ w = w' := by
  obtain ⟨cs, c, hp, h28, h135⟩ := h.ex
  have hc : w.cell? ⟨g, 135, none⟩ = some (.bool b) := by rw [hp.blk.cell]; exact h135
  clear h hp h28 h135
  go_enter Try.func59, Try.ntmps59
  go_wp2
  go_ret
  exact ⟨rfl, rfl⟩

/-- two rows lie in different blocks -/
def Sep (a b : Option Addr) : Prop := ∀ k, a.map (·.block) = some k → b.map (·.block) ≠ some k
theorem Sep.symm {a b : Option Addr} (h : Sep a b) : Sep b a := fun k hk he => h k he hk
theorem Sep.new {w : World} {a a2 b : Option Addr} (hn : NewRow w a a2) (h : Sep a b) (hb : ∀ k, b.map (·.block) = some k → k < w.heap.size) : Sep a2 b := by
  intro k hk he
  rcases hn with e | ⟨q, hq, e⟩
  · exact h k (by rw [← e]; exact hk) he
  · rw [e] at hk
    injection hk with hk
    have := hb k he
    omega
theorem Sep.none_left (b : Option Addr) : Sep none b := fun k hk => by cases hk
/-- a row of bytes of the call's own -/
def OwnB (w : World) (a : Option Addr) (c : Nat) (ys : List Int) : Prop := w.ownsRow 0 5 1 (.slice a ys.length c) ys.length (ys.map (Value.int .u8))
theorem OwnB.lt {w : World} {a : Option Addr} {c : Nat} {ys : List Int} (h : OwnB w a c ys) : ∀ k, a.map (·.block) = some k → k < w.heap.size := fun k hk => (own_lt h k hk).2
theorem OwnB.keep {w w2 : World} {a : Option Addr} {c : Nat} {ys : List Int} (h : OwnB w a c ys) (hk : ∀ k, k < w.heap.size → a.map (·.block) = some k → w2.heap[k]? = w.heap[k]?) : OwnB w2 a c ys := by
  refine ⟨h.1, ?_⟩
  rcases h.2 with e | ⟨q, cap, cur, e1, e2, hh, r⟩
  · exact Or.inl e
  · refine Or.inr ⟨q, cap, cur, e1, e2, ?_, r⟩
    injection e1 with ea
    have hq : a.map (·.block) = some q := by rw [ea]; rfl
    exact (hk q (h.lt q hq) hq).trans hh
theorem OwnB.ne {w : World} {a : Option Addr} {c : Nat} {ys : List Int} (h : OwnB w a c ys) {g : Nat} {cs : List Value} (hb : Blk w g 111 cs) : a.map (·.block) ≠ some g := by
  intro e
  refine hb.notOwned h (by decide) ?_
  rcases a with _ | ad
  · cases e
  · injection e with e
    simp [Value.ownBlock, e]
theorem OwnB.step {w w2 : World} {g : Nat} {a b b2 : Option Addr} {c : Nat} {ys : List Int} (h : OwnB w a c ys) (hs : Step w w2 g b b2) (hg : a.map (·.block) ≠ some g) (hsep : Sep b a) : OwnB w2 a c ys :=
  h.keep fun k hk he => hs.block k hk (fun e => hg (by rw [← e]; exact he)) (fun e => hsep k e he)
theorem Sp.own {w : World} {g : Nat} {a : Option Addr} {xs : List Int} {mw b : Bool} (h : Sp w g a xs mw b) : ∃ c, OwnB w a c xs := by
  obtain ⟨cs, c, hp, _, _⟩ := h.ex
  exact ⟨c, hp.own⟩
theorem Sp.lt {w : World} {g : Nat} {a : Option Addr} {xs : List Int} {mw b : Bool} (h : Sp w g a xs mw b) : ∀ k, a.map (·.block) = some k → k < w.heap.size := by
  obtain ⟨c, hc⟩ := h.own
  exact hc.lt
theorem Sp.glt {w : World} {g : Nat} {a : Option Addr} {xs : List Int} {mw b : Bool} (h : Sp w g a xs mw b) : g < w.heap.size := by
  obtain ⟨cs, c, hp, _, _⟩ := h.ex
  exact hp.blk.lt
theorem Sp.ne {w : World} {g : Nat} {a d : Option Addr} {xs ys : List Int} {mw b : Bool} {c : Nat} (h : Sp w g a xs mw b) (ho : OwnB w d c ys) : d.map (·.block) ≠ some g := by
  obtain ⟨cs, c, hp, _, _⟩ := h.ex
  exact ho.ne hp.blk
/-- a printer is left alone by a step on another printer or row -/
theorem Sp.step {w w2 : World} {g g1 : Nat} {a b b2 : Option Addr} {xs : List Int} {mw f : Bool} (h : Sp w g a xs mw f) (hs : Step w w2 g1 b b2) (hg : g ≠ g1) (hb : b.map (·.block) ≠ some g) (ha : a.map (·.block) ≠ some g1) (hsep : Sep b a) : Sp w2 g a xs mw f := by
  obtain ⟨cs, c, hp, h28, h135⟩ := h.ex
  exact ⟨cs, c, hp.other hs hg hb (fun k hk => ⟨fun e => ha (by rw [← e]; exact hk), fun e => hsep k e hk⟩), h28, h135⟩
theorem step_of_grown {w w2 : World} {a a2 : Option Addr} {n c : Nat} (hg : w.grownBy w2 (Value.ownBlock (.slice a n c))) (hn : NewRow w a a2) (g : Nat) : Step w w2 g a a2 :=
  ⟨hg.os, hg.tape, hg.output, hg.size, fun k hk _ hka => hg.block k hk (fun e => hka (by
    rcases a with _ | ad
    · cases e
    · simpa [Value.ownBlock] using e.symm)), hn⟩

/-- append of bytes that lie in memory onto a row of the call's own -/
theorem wp_append_row {ops : Array Oper} {rest : List Oper} {o : Oper} {a : Act} {Q : Exit → Act → World → Prop} (w : World) (hgd : o.guard = none) (sl x : Operand)
    (ho : o.op = .call { callee := .builtin .append, args := #[sl, x], argTypes := #[22, 22] })
    (A : Option Addr) (c : Nat) (xs : List Int) (hs : a.eval sl = .slice A xs.length c) (hown : OwnB w A c xs) (ad : Addr) (m d : Nat) (ys : List Int) (hx : a.eval x = .slice (some ad) m d) (hm : ys.length = m) (h0 : 0 < m)
    (hcell : ∀ j u, (ys.map (Value.int .u8))[j]? = some u → w.cell? (ad.add j) = some u) (hb : xs.length + m ≤ 70368744177664)
    (h : ∀ A2 c2 w2, NewRow w A A2 → OwnB w2 A2 c2 (xs ++ ys) → Step w w2 w.heap.size A A2 → wpList Try.prog ops Q rest (a.put o.dst (.slice A2 (xs ++ ys).length c2)) w2) :
    wpList Try.prog ops Q (o :: rest) a w := by
  obtain ⟨i0, hi, hz0, hz1, hz2⟩ := info_parts info5
  refine wpList_plain hgd fun K hK => ?_
  refine wp_append_lies (P := Try.prog) w sl x 22 ho 0 5 i0 (.int .u8 0) 1 1 Try.underlying22 hi hz0 hz1 hz2 rfl (by decide) _ xs.length (xs.map (Value.int .u8)) hs hown ad m d (ys.map (Value.int .u8)) hx (by simpa using hm) hcell ?_ h0 (by unfold maxLen; omega) (by omega) (Nat.zero_le _) _ rfl ?_
  · intro u hu
    obtain ⟨y, _, rfl⟩ := List.mem_map.1 hu
    rfl
  · intro g cap w2 hown2 hgrow hat hlt
    have hl : xs.length + m = (xs ++ ys).length := by rw [List.length_append, hm]
    rw [hl] at hown2 ⊢
    rw [← List.map_append] at hown2
    have hn : NewRow w A (some ⟨g, 0, none⟩) := by
      rcases hat with e | e
      · left
        rcases A with _ | ad2
        · cases e
        · simp [Value.ownBlock] at e
          simp [e]
      · right
        exact ⟨g, by omega, rfl⟩
    exact hK _ _ (h _ _ _ hn hown2 (step_of_grown hgrow hn _))
end Go.Proofs.Ytgoffcpchgepeaa.script
