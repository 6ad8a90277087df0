/-
  What shouldRemoveImportExportStmt reads and what it leaves; its small callees.
  Conditions: the memory is as laid.
-/
import Derived.Test.YtilhckihpgfkfaaDoorWork1
import Derived.LoopTactic
import Derived.Outline
import Derived.IntWalk
import Derived.OwnWalk
import Derived.Deep.QuietTactic
import Derived.BigQuiet
import Derived.BigRegion
import Derived.Deep.RegionHeld3
import Derived.Test.YtilhckihpgfkfaaDoorLate
import Derived.Test.YtilhckihpgfkfaaDoorSf
import Derived.Deep.RegionWith
import Derived.Deep.RegionLaw
import Derived.StillTailTactics
import Derived.Deep.DeepCutAuto
namespace Go.Proofs.YtilhckihpgfkfaaDoor.sr
open Go.ChangeShapes Go.WideShapes Go.ChangeAt Go.RowKit
open kit

def sc (x : Value × Int) : List Value := [x.1, .int .i32 x.2]
theorem valid (a : Int) (b : Bool) (hb : (a == 0) = !b) (w : World) :
    Calls Tryd.prog 14 #[.agg #[.int .u32 a]] w fun e w' => e = .returned (.bool b) ∧ Kept w w' := by
  have h2 : (a != 0) = b := by rw [bne, hb]; simp
  clear hb
  go_enter Tryd.func14, Tryd.ntmps14
  go_wp2
  go_ret
  exact ⟨rfl, (Kept.refl _).alloc _⟩
/-- what the call reads: the context in block cb, its row of files in LB, the importer's JSRepr in J0, its record in RB, the options in ob -/
structure Mx (w : World) (cb LB J0 RB ob g : Nat) (rcs : List Value) (fmt z : Int) (fl : Int) (cjs ei : Int) : Prop where
  c1 : w.cell? ⟨cb, 10, none⟩ = some (.slice (some ⟨LB, 0, none⟩) 2 2)
  c2 : w.cell? ⟨LB, 2, none⟩ = some (.iface 168 (.pointer (some ⟨J0, 0, none⟩)))
  c3 : w.cell? ⟨J0, 35, none⟩ = some (.slice (some ⟨RB, 0, none⟩) 1 1)
  rb : Blk w RB 145 rcs
  r4 : rcs[10]? = some (.int .u32 fl)
  r7 : rcs[7]? = some (.int .i32 z)
  c5 : w.cell? ⟨cb, 0, none⟩ = some (.pointer (some ⟨ob, 0, none⟩))
  c6 : w.cell? ⟨ob, 98, none⟩ = some (.int .u8 fmt)
  c8 : w.cell? ⟨cb, 12, none⟩ = some (.slice (some ⟨g, 0, none⟩) 2 2)
  c9 : w.cell? ⟨J0, 62, none⟩ = some (.int .u8 cjs)
  cA : w.cell? ⟨J0, 48, none⟩ = some (.int .u32 0)
  cB : w.cell? ⟨J0, 49, none⟩ = some (.int .u32 ei)
/-- the other file: its JSRepr in J1 -/
structure Mo (w : World) (LB J1 : Nat) (wrap : Int) (live async : Bool) (r0 r1 : Int) : Prop where
  d1 : w.cell? ⟨LB, 26, none⟩ = some (.iface 168 (.pointer (some ⟨J1, 0, none⟩)))
  d2 : w.cell? ⟨LB, 47, none⟩ = some (.bool live)
  d3 : w.cell? ⟨J1, 11, none⟩ = some (.int .u8 wrap)
  d4 : w.cell? ⟨J1, 10, none⟩ = some (.bool async)
  d5 : w.cell? ⟨J1, 52, none⟩ = some (.int .u32 r0)
  d6 : w.cell? ⟨J1, 53, none⟩ = some (.int .u32 r1)
theorem Mo.kept {w w2 : World} {LB J1 : Nat} {wrap r0 r1 : Int} {live async : Bool} (h : Mo w LB J1 wrap live async r0 r1) (k : Kept w w2) : Mo w2 LB J1 wrap live async r0 r1 :=
  ⟨k.cell h.d1, k.cell h.d2, k.cell h.d3, k.cell h.d4, k.cell h.d5, k.cell h.d6⟩
section
variable {w w2 : World} {cb LB J0 RB ob g : Nat} {rcs : List Value} {fmt z fl cjs ei : Int}
theorem Mx.kept (h : Mx w cb LB J0 RB ob g rcs fmt z fl cjs ei) (k : Kept w w2) : Mx w2 cb LB J0 RB ob g rcs fmt z fl cjs ei :=
  ⟨k.cell h.c1, k.cell h.c2, k.cell h.c3, h.rb.kept k, h.r4, h.r7, k.cell h.c5, k.cell h.c6, k.cell h.c8, k.cell h.c9, k.cell h.cA, k.cell h.cB⟩
theorem Mx.c4 (h : Mx w cb LB J0 RB ob g rcs fmt z fl cjs ei) : w.cell? ⟨RB, 10, none⟩ = some (.int .u32 fl) := by rw [h.rb.cell]; exact h.r4
theorem Mx.c7 (h : Mx w cb LB J0 RB ob g rcs fmt z fl cjs ei) : w.cell? ⟨RB, 7, none⟩ = some (.int .i32 z) := by rw [h.rb.cell]; exact h.r7
end
theorem keeps (fmt : Int) (w : World) : Calls Tryd.prog 15 #[.int .u8 fmt] w fun e w' => e = .returned (.bool (decide (fmt = 0 ∨ fmt = 3))) ∧ w = w' := by
  by_cases h0 : fmt = 0
  · subst h0
    have e0 : ((0 : Int) == 0) = true := rfl
    go_enter Tryd.func15, Tryd.ntmps15
    go_wp2
    go_ret
    exact ⟨by simp, rfl⟩
  · have e0 : (fmt == 0) = false := by simp; exact h0
    by_cases h3 : fmt = 3
    · subst h3
      have e3 : ((3 : Int) == 3) = true := rfl
      go_enter Tryd.func15, Tryd.ntmps15
      go_wp2
      go_ret
      exact ⟨by simp, rfl⟩
    · have e3 : (fmt == 3) = false := by simp; exact h3
      go_enter Tryd.func15, Tryd.ntmps15
      go_wp2
      go_ret
      exact ⟨by simp [h0, h3], rfl⟩
theorem info34 : ∃ i z, Tryd.prog.info? 34 = some i ∧ i.zero = some z ∧ z.cells.size = 2 ∧ i.size = 2 ∧ i.bytes = 24 := by
  have h : (Tryd.prog.info? 34).map (fun i => (i.zero.map (·.cells.size), i.size, i.bytes)) = some (some 2, 2, 24) := by kernel_rfl
  obtain ⟨i, hi, hh⟩ := Option.map_eq_some_iff.1 h
  simp only [Prod.mk.injEq] at hh
  obtain ⟨z, hz, hz2⟩ := Option.map_eq_some_iff.1 hh.1
  exact ⟨i, z, hi, hz, hz2, hh.2⟩
/-- what the call leaves: the list of statements as it was, or with one statement more, at loc -/
def Res (w : World) (base lb : Nat) (t : Value) (l : List (Value × Int)) (loc : Int) (e : Ending) (w' : World) : Prop :=
  ∃ got t2 l2, e = .returned (.bool got) ∧ (got = false → l2 = l) ∧ (l2 = l ∨ ∃ v, l2 = l ++ [(v, loc)]) ∧ Blk w' lb 207 [t2, .slice none 0 0, .slice none 0 0] ∧ Wk w' base 34 2 sc t2 l2 ∧ kit.Turn w w' (fun k => k = lb ∨ t.ownBlock = some k)
theorem newsE (w : World) (vs : List Value) (t : TypeId) (ad : Addr) (h : ad = ⟨w.heap.size, 0, none⟩) : ∀ j u, vs[j]? = some u → ((w.alloc (.cells vs.toArray t)).drew).cell? (ad.add j) = some u := fun j u hj => by
  subst h
  exact newsOf w vs t j u hj
theorem pushed {w W W2 : World} {base lb : Nat} {t v : Value} {l : List (Value × Int)} {x : Value} {loc : Int} (hk : Kept w W) (hl : Blk w lb 207 [t, .slice none 0 0, .slice none 0 0]) (hw : Wk w base 34 2 sc t l)
    (hown : W2.ownsRow base 34 2 v (l.length + 1) (l.flatMap sc ++ [x, .int .i32 loc])) (hg : W.grownBy W2 t.ownBlock) :
    (W2.cell? ⟨lb, 0, none⟩ = some t ∧ W2.frozen? ⟨lb, 0, none⟩ = false) ∧ Res w base lb t l loc (.returned (.bool true)) (W2.setCell ⟨lb, 0, none⟩ v) := by
  have hb2 : Blk W2 lb 207 [t, .slice none 0 0, .slice none 0 0] := (hl.kept hk).grown hg (fun e => hl.notOwned hw.2 (by decide) e.symm)
  have hT : kit.Turn w W2 (fun k => k = lb ∨ t.ownBlock = some k) := ⟨hg.os.trans hk.os, hg.tape.trans hk.tape, hg.output.trans hk.output, Nat.le_trans hk.size hg.size, fun k hk2 hn => (hg.block k (Nat.lt_of_lt_of_le hk2 hk.size) (fun c => hn (.inr c.symm))).trans (hk.block k hk2)⟩
  have hw2 : Wk W2 base 34 2 sc v (l ++ [(x, loc)]) := Wk.of_own hown (by simp) (by simp [sc])
  refine ⟨⟨by rw [hb2.cell]; rfl, hb2.free 0⟩, true, v, l ++ [(x, loc)], rfl, fun h => (by cases h), Or.inr ⟨x, rfl⟩, by have := hb2.set 0 v; simpa using this, hw2.far (p := ⟨lb, 0, none⟩) (hb2.notOwned hw2.2 (by decide)) _, hT.set (p := ⟨lb, 0, none⟩) (.inl rfl) _⟩
theorem Blk.new' (w : World) (T : TypeId) (cs : List Value) (q : Nat) (h : q = w.heap.size) : Blk (w.alloc (.cells cs.toArray T)) q T cs := by subst h; exact Blk.new w T cs
theorem Res.same {w w' : World} {base lb : Nat} {t : Value} {l : List (Value × Int)} {loc : Int} (b : Bool) (hl : Blk w lb 207 [t, .slice none 0 0, .slice none 0 0]) (hw : Wk w base 34 2 sc t l) (k : Kept w w') : Res w base lb t l loc (.returned (.bool b)) w' :=
  ⟨b, t, l, rfl, fun _ => rfl, Or.inl rfl, hl.kept k, hw.kept k, kit.Turn.of_kept k _⟩
theorem getIndex (w : World) (a : Int) (h0 : 0 ≤ a) (h1 : a ≤ 4294967295) : Calls Tryd.prog 17 #[.agg #[.int .u32 a]] w fun e w' => e = .returned (.int .u32 (4294967295 - a)) ∧ Kept w w' := by
  have hf := flip32 a h0 h1
  go_enter Tryd.func17, Tryd.ntmps17
  go_wp2
  go_ret
  exact ⟨rfl, (Kept.refl _).alloc _⟩
end Go.Proofs.YtilhckihpgfkfaaDoor.sr
