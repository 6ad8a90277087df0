/-
  Two printers that print the same texts, over this seat's program: rows apart, append of bytes, printBytes, the maker.
  Conditions: the output stays below 2^46 bytes.
-/
import Derived.Test.YtdpljbhbnlcoaaaPr
import Derived.Laws.Tables
import Derived.Lib.ConvBytes
import Derived.Deep.AppendLies
import Derived.Deep.AppendSrc
namespace Go.Proofs.Ytdpljbhbnlcoaaa.ag
open Go.ChangeShapes Go.WideShapes Go.ChangeAt Go.RowKit
open kit pr

def Sep (a b : Option Addr) : Prop := ∀ k, a.map (·.block) = some k → b.map (·.block) ≠ some k
theorem Sep.symm {a b : Option Addr} (h : Sep a b) : Sep b a := fun k hk he => h k he hk
theorem Sep.new {w : World} {a a2 b : Option Addr} (hn : NewRow w a a2) (h : Sep a b) (hb : ∀ k, b.map (·.block) = some k → k < w.heap.size) : Sep a2 b := by
  intro k hk he
  rcases hn with e | ⟨q, hq, e⟩
  · exact h k (by rw [← e]; exact hk) he
  · rw [e] at hk
    injection hk with hk
    have := hb k he
    omega
theorem Sep.none_left (b : Option Addr) : Sep none b := fun k hk => by cases hk
/-- a row of bytes of the call's own -/
def OwnB (w : World) (a : Option Addr) (c : Nat) (ys : List Int) : Prop := w.ownsRow 0 5 1 (.slice a ys.length c) ys.length (ys.map (Value.int .u8))
theorem OwnB.lt {w : World} {a : Option Addr} {c : Nat} {ys : List Int} (h : OwnB w a c ys) : ∀ k, a.map (·.block) = some k → k < w.heap.size := fun k hk => (own_lt h k hk).2
theorem OwnB.keep {w w2 : World} {a : Option Addr} {c : Nat} {ys : List Int} (h : OwnB w a c ys) (hk : ∀ k, k < w.heap.size → a.map (·.block) = some k → w2.heap[k]? = w.heap[k]?) : OwnB w2 a c ys := by
  refine ⟨h.1, ?_⟩
  rcases h.2 with e | ⟨q, cap, cur, e1, e2, hh, r⟩
  · exact Or.inl e
  · refine Or.inr ⟨q, cap, cur, e1, e2, ?_, r⟩
    injection e1 with ea
    have hq : a.map (·.block) = some q := by rw [ea]; rfl
    exact (hk q (h.lt q hq) hq).trans hh
theorem OwnB.ne {w : World} {a : Option Addr} {c : Nat} {ys : List Int} (h : OwnB w a c ys) {g : Nat} {cs : List Value} (hb : Blk w g 86 cs) : a.map (·.block) ≠ some g := by
  intro e
  refine hb.notOwned h (by decide) ?_
  rcases a with _ | ad
  · cases e
  · injection e with e
    simp [Value.ownBlock, e]
theorem OwnB.step {w w2 : World} {g : Nat} {a b b2 : Option Addr} {c : Nat} {ys : List Int} (h : OwnB w a c ys) (hs : Step w w2 g b b2) (hg : a.map (·.block) ≠ some g) (hsep : Sep b a) : OwnB w2 a c ys :=
  h.keep fun k hk he => hs.block k hk (fun e => hg (by rw [← e]; exact he)) (fun e => hsep k e he)
theorem step_of_grown {w w2 : World} {a a2 : Option Addr} {n c : Nat} (hg : w.grownBy w2 (Value.ownBlock (.slice a n c))) (hn : NewRow w a a2) (g : Nat) : Step w w2 g a a2 :=
  ⟨hg.os, hg.tape, hg.output, hg.size, fun k hk _ hka => hg.block k hk (fun e => hka (by
    rcases a with _ | ad
    · cases e
    · simpa [Value.ownBlock] using e.symm)), hn⟩


set_option maxRecDepth 100000 in
/-- append of no bytes leaves the row -/
theorem run_append_zero (w : World) (ty : TypeId) (A : Option Addr) (c : Nat) (xs : List Int) (hown : OwnB w A c xs) (ad : Addr) (d : Nat) :
    (Builtin.append_ #[22, 22] ty #[.slice A xs.length c, .slice (some ad) 0 d]).run Try.prog w = .ok (.slice A xs.length c) w := by
  obtain ⟨i0, hi, hz0, hz1, hz2⟩ := info_parts info5
  rcases hown.2 with ⟨e1, e2⟩ | ⟨g, cap, cur, e1, _, hg, hnc, hcm, hcs, htake⟩
  · injection e1 with a1 a2 a3
    subst a1 a3
    rw [a2]
    have hs : Src Try.prog i0.size 22 (.slice (some ad) 0 d) 0 [] w := Src.ofSlice w Try.underlying22 ad 0 d [] (by simp) (fun j u h => by simp at h) (fun u h => by cases h)
    simp [Builtin.append_, run_underlying Try.underlying22, sizeOf, typeInfo, hi, hs.len, hs.cells]
  · injection e1 with a1 a2 a3
    subst a1 a3
    have hs : Src Try.prog i0.size 22 (.slice (some ad) 0 d) 0 [] w := Src.ofSlice w Try.underlying22 ad 0 d [] (by simp) (fun j u h => by simp at h) (fun u h => by cases h)
    have h := run_append_room_src (P := Try.prog) (w := w) 22 22 ty 5 i0 Try.underlying22 hi g 0 xs.length c (.slice (some ad) 0 d) 0 [] hs (by omega) (fun j hj => absurd hj (by simp)) (fun j hj => absurd hj (by simp))
    simpa [World.setCells] using h
theorem run_append_row (w : World) (ty : TypeId) (A : Option Addr) (c : Nat) (xs : List Int) (hown : OwnB w A c xs) (ad : Addr) (d : Nat) (ys : List Int)
    (hcell : ∀ j u, (ys.map (Value.int .u8))[j]? = some u → w.cell? (ad.add j) = some u) (hb : xs.length + ys.length ≤ 70368744177664) :
    ∃ A2 c2 w2, (Builtin.append_ #[22, 22] ty #[.slice A xs.length c, .slice (some ad) ys.length d]).run Try.prog w = .ok (.slice A2 (xs ++ ys).length c2) w2 ∧ NewRow w A A2 ∧ OwnB w2 A2 c2 (xs ++ ys) ∧ w.grownBy w2 (Value.ownBlock (.slice A xs.length c)) := by
  rcases Nat.eq_zero_or_pos ys.length with h0 | h0
  · have e : ys = [] := List.length_eq_zero_iff.1 h0
    subst e
    refine ⟨A, c, w, ?_, .inl rfl, by simpa using hown, World.grownBy.refl _ _⟩
    have := run_append_zero w ty A c xs hown ad d
    simpa using this
  · obtain ⟨i0, hi, hz0, hz1, hz2⟩ := info_parts info5
    obtain ⟨g, cap, w2, hr, hown2, hgrow, hat, hlt⟩ := run_append_lies (P := Try.prog) w 22 ty 0 5 i0 (.int .u8 0) 1 1 Try.underlying22 hi hz0 hz1 hz2 rfl (by decide) _ xs.length (xs.map (Value.int .u8)) hown ad ys.length d (ys.map (Value.int .u8)) (by simp) hcell (by
      intro u hu
      obtain ⟨y, _, rfl⟩ := List.mem_map.1 hu
      rfl) h0 (by unfold maxLen; omega) (by omega) (Nat.zero_le _) _ rfl
    rw [← List.length_append] at hr hown2
    rw [← List.map_append] at hown2
    refine ⟨_, _, w2, hr, ?_, hown2, hgrow⟩
    rcases hat with e | e
    · left
      rcases A with _ | ad2
      · cases e
      · simp [Value.ownBlock] at e
        simp [e]
    · right
      exact ⟨g, by omega, rfl⟩
theorem wp_append_row {ops : Array Oper} {rest : List Oper} {o : Oper} {a : Act} {Q : Exit → Act → World → Prop} (w : World) (hgd : o.guard = none) (sl x : Operand)
    (ho : o.op = .call { callee := .builtin .append, args := #[sl, x], argTypes := #[22, 22] })
    (A : Option Addr) (c : Nat) (xs : List Int) (hown : OwnB w A c xs) (ad : Addr) (d : Nat) (ys : List Int) (n m : Nat) (hn : xs.length = n) (hm : ys.length = m) (hs : a.eval sl = .slice A n c) (hx : a.eval x = .slice (some ad) m d)
    (hcell : ∀ j u, (ys.map (Value.int .u8))[j]? = some u → w.cell? (ad.add j) = some u) (hb : xs.length + ys.length ≤ 70368744177664)
    (h : ∀ A2 c2 w2 (L : Nat), Hid (L = (xs ++ ys).length) → NewRow w A A2 → OwnB w2 A2 c2 (xs ++ ys) → w.grownBy w2 (Value.ownBlock (.slice A n c)) → wpList Try.prog ops Q rest (a.put o.dst (.slice A2 L c2)) w2) :
    wpList Try.prog ops Q (o :: rest) a w := by
  subst hn hm
  refine wpList_plain hgd fun K hK => ?_
  obtain ⟨A2, c2, w2, hr, h1, h2, h3⟩ := run_append_row w o.type A c xs hown ad d ys hcell hb
  unfold Oper.wp execOp
  simp only [ho, resolve, invoke, builtin, Sem.run_bind, Sem.run_pure, Result.andThen_ok, List.map_toArray, List.map_cons, List.map_nil, hs, hx, hr]
  exact hK _ _ (h A2 c2 w2 _ (Lib.hid rfl) h1 h2 h3)

theorem printBytes (w : World) (g : Nat) (cs : List Value) (a : Option Addr) (c : Nat) (xs : List Int) (ad : Addr) (d : Nat) (ys : List Int) (h : Pr w g cs a c xs) (hcell : ∀ j u, (ys.map (Value.int .u8))[j]? = some u → w.cell? (ad.add j) = some u) (hb : xs.length + ys.length ≤ 70368744177664) :
    Calls Try.prog 23 #[.pointer (some ⟨g, 0, none⟩), .slice (some ad) ys.length d] w (Printed w g cs a xs ys) := by
  have hc : w.cell? ⟨g, 9, none⟩ = some (.slice a xs.length c) := h.jcell
  have hne := h.blk.notOwned h.own (by decide)
  have H := Lib.hid h
  have HCELL := Lib.hid hcell
  clear h hcell
  generalize hn : xs.length = n at *
  generalize hm : ys.length = m at *
  have HN := Lib.hid hn
  have HM := Lib.hid hm
  clear hn hm
  go_enter Try.func23, Try.ntmps23
  go_wp2_with (at_builtin; refine wp_append_row _ rfl _ _ rfl a c xs ?c0 ad d ys n m HN.out HM.out rfl rfl HCELL.out ?c1 ?_)
  case c0 => exact H.out.own
  case c1 => rw [HN.out, HM.out]; exact hb
  intro A2 c2 w2 L HL hrow hown hgrow
  have hb2 : Blk w2 g 86 cs := H.out.blk.grown hgrow (fun e => hne (by rw [HN.out] at *; exact e.symm))
  have hc2 : w2.cell? ⟨g, 9, none⟩ = some (.slice a n c) := by rw [hb2.cell]; have := H.out.js; rw [HN.out] at this; exact this
  have hf2 := hb2.free 9
  have HB := Lib.hid hb2
  have HR := Lib.hid hrow
  have HO := Lib.hid hown
  have HG := Lib.hid hgrow
  clear hb2 hrow hown hgrow hne hc
  go_wp2
  go_end0
  refine ⟨A2, c2, rfl, ⟨?_, ?_, ?_⟩, ?_⟩
  · have hl : (xs ++ ys).length = L := by rw [List.length_append]; exact HL.out.symm
    rw [hl]; exact HB.out.set _ _
  · rw [List.getElem?_set_self (by exact H.out.jlt)]
  · have HO2 := HO.out
    unfold OwnB at HO2
    have hne2 : (Value.ownBlock (.slice A2 (xs ++ ys).length c2)) ≠ some g := HB.out.notOwned HO2 (by decide)
    refine ⟨HO2.1, ?_⟩
    rcases HO2.2 with e | ⟨q, cap, cur, e1, e2, hh, r⟩
    · exact Or.inl e
    · refine Or.inr ⟨q, cap, cur, e1, e2, ?_, r⟩
      rw [Below.heap_setCell _ _ _ _ (fun e => hne2 (by rw [e1]; simp [Value.ownBlock]; exact e))]
      exact hh
  · have hgr := HG.out
    refine ⟨hgr.os, hgr.tape, hgr.output, by simpa [World.setCell] using hgr.size, fun k hk hkg hka => ?_, HR.out⟩
    rw [Below.heap_setCell _ _ _ _ hkg]
    refine hgr.block k hk (fun e => hka ?_)
    rcases a with _ | ad
    · cases e
    · simpa [Value.ownBlock] using e.symm

/-- the text as bytes of its own -/
theorem bytesKept (w : World) (s : ByteArray) : Kept w (Lib.bytesWorld w 5 s) := by
  refine ⟨?_, ?_, ?_, ?_, fun k hk => Lib.bytesWorld_at_old w 5 s k hk⟩
  · simp [Lib.bytesWorld, World.freeze, World.alloc, World.drew, -World.alloc_eq, -World.drew_eq]
  · simp [Lib.bytesWorld, World.freeze, World.alloc, World.drew, -World.alloc_eq, -World.drew_eq]
  · simp [Lib.bytesWorld, World.freeze, World.alloc, World.drew, -World.alloc_eq, -World.drew_eq]
  · rw [Lib.bytesWorld_size]; omega
theorem bytesCell (w : World) (s : ByteArray) : ∀ j u, ((bytesOf s).map (Value.int .u8))[j]? = some u → (Lib.bytesWorld w 5 s).cell? ((⟨w.heap.size, 0, none⟩ : Addr).add j) = some u := by
  intro j u h
  have hj : j < s.size := by
    have := (List.getElem?_eq_some_iff.1 h).1
    rwa [List.length_map, bytesOf_length] at this
  have e := Lib.bytesWorld_cell w 5 s j hj
  have e2 : ((⟨w.heap.size, 0, none⟩ : Addr).add j) = ⟨w.heap.size, j, none⟩ := by rw [Addr.add_lit, Nat.zero_add]
  rw [e2, e, ← h]
  have hj2 : j < s.data.size := hj
  have e3 : s.data[j]? = some s.data[j] := Array.getElem?_eq_getElem hj2
  simp [bytesOf, List.getD, e3]
end Go.Proofs.Ytdpljbhbnlcoaaa.ag
