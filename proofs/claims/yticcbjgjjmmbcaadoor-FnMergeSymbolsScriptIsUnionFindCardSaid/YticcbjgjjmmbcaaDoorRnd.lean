/-
  The state in which a round of FnMergeSymbolsScriptIsUnionFind stands, over this seat's program, and what its four calls make of it.
  Conditions: the state's own.
-/
import Derived.Test.YticcbjgjjmmbcaaDoorScr
namespace Go.Proofs.YticcbjgjjmmbcaaDoor.scr
open Go.ChangeShapes Go.WideShapes Go.ChangeAt Go.RowKit
open kit chain arena cut arr p236 uf

theorem otherB {w : World} {p a : Addr} {u : Value} (h : a.block ≠ p.block) : (w.setCell p u).cell? a = w.cell? a := by
  apply World.cell?_setCell_other
  intro e
  exact h (by rw [e])
/-- the symbols' blocks, and the labels' block behind them -/
def bkL (bk : Nat → Nat) (S lb : Nat) : Nat → Nat := fun s => if s < S then bk s else lb
theorem bkL_ne {bk : Nat → Nat} {S lb b : Nat} (h : ∀ s, s < S → bk s ≠ b) (h2 : lb ≠ b) : ∀ s, s < S + 1 → bkL bk S lb s ≠ b := fun s _ => by
  unfold bkL
  split
  · exact h s (by assumption)
  · exact h2
theorem Turn.wide {w w2 : World} {bk : Nat → Nat} {S : Nat} (h : Turn w w2 bk S) (lb : Nat) : Turn w w2 (bkL bk S lb) (S + 1) :=
  ⟨h.os, h.tape, h.output, h.size, fun b hb hn => h.block b hb (fun s hs => by have := hn s (by omega); simpa [bkL, hs] using this)⟩

/-- where the variables lie -/
structure Pl where
  g : Nat
  bk : Nat → Nat
  lb : Nat
  mb : Nat
  rf : Nat
  cb : Nat
  sb : Nat
/-- the state at a world: the table, the labels, all that only is read -/
structure St (P : Pl) (zs : List Int) (n : Nat) (w0 W : World) (τ : Tab) (lab : Nat → Nat) : Prop where
  box : Blk W P.mb 39 [.slice (some ⟨P.g, 0, none⟩) (srcs zs n) (srcs zs n)]
  refs : RefAt W P.rf zs n
  cnts : IntAt W P.cb (counts zs n)
  sts : IntAt W P.sb (starts zs n)
  inv : Inv W
  ar : Arena W P.g P.bk (srcs zs n) τ
  lab : Blk W P.lb 3 (rowF .i64 n fun x => (lab x : Int))
  tu : Turn w0 W (bkL P.bk (srcs zs n) P.lb) (srcs zs n + 1)
  far : ∀ s, s < srcs zs n → P.bk s ≠ P.mb ∧ P.bk s ≠ P.rf ∧ P.bk s ≠ P.cb ∧ P.bk s ≠ P.sb ∧ P.bk s ≠ P.lb ∧ P.bk s ≠ 0
  far2 : P.lb ≠ P.mb ∧ P.lb ≠ P.rf ∧ P.lb ≠ P.cb ∧ P.lb ≠ P.sb ∧ P.lb ≠ P.g ∧ P.lb ≠ 0
section
variable {P : Pl} {zs : List Int} {n : Nat} {w0 W W2 : World} {τ τ2 : Tab} {lab : Nat → Nat}
theorem St.turn (h : St P zs n w0 W τ lab) (a : Arena W2 P.g P.bk (srcs zs n) τ2) (t : Turn W W2 P.bk (srcs zs n)) : St P zs n w0 W2 τ2 lab :=
  ⟨t.blk h.box (fun s hs => (h.far s hs).1), t.blk (h.refs : Blk _ _ _ _) (fun s hs => (h.far s hs).2.1), h.cnts.turn t (fun s hs => (h.far s hs).2.2.1), h.sts.turn t (fun s hs => (h.far s hs).2.2.2.1),
    t.inv h.inv (fun s hs => (h.far s hs).2.2.2.2.2), a, t.blk h.lab (fun s hs => (h.far s hs).2.2.2.2.1), h.tu.trans (Turn.wide t _), h.far, h.far2⟩
theorem St.kept (h : St P zs n w0 W τ lab) (k : Kept W W2) : St P zs n w0 W2 τ lab := h.turn (h.ar.kept k) (Turn.of_kept k _ _)
/-- a label is written -/
theorem St.put (h : St P zs n w0 W τ lab) {x y : Nat} (hx : x < n) : St P zs n w0 (W.setCell ⟨P.lb, x, none⟩ (.int .i64 (y : Int))) τ (fun j => if j = x then y else lab j) := by
  have hf := h.far
  have hl : ∀ b, P.lb ≠ b → b ≠ P.lb := fun b e => fun h => e h.symm
  refine ⟨h.box.far (hl _ h.far2.1) _, (show Blk _ _ _ _ from h.refs).far (hl _ h.far2.2.1) _, ?_, ?_, ?_, ?_, ?_, ?_, h.far, h.far2⟩
  · exact ⟨by simpa using h.cnts.1, fun i hi => by
      rw [otherB]
      · exact h.cnts.2 i hi
      · exact hl _ h.far2.2.2.1⟩
  · exact ⟨by simpa using h.sts.1, fun i hi => by
      rw [otherB]
      · exact h.sts.2 i hi
      · exact hl _ h.far2.2.2.2.1⟩
  · constructor
    · rw [otherB]
      · exact h.inv.1
      · exact hl _ h.far2.2.2.2.2.2
    · rw [otherB]
      · exact h.inv.2
      · exact hl _ h.far2.2.2.2.2.2
  · exact h.ar.far (hl _ h.far2.2.2.2.2.1) (fun s hs => (hf s hs).2.2.2.2.1) _
  · have e := h.lab.set x (.int .i64 (y : Int))
    rw [rowF_set .i64 _ _ hx] at e
    have e2 : rowF .i64 n (upd (fun x => (lab x : Int)) x (y : Int)) = rowF .i64 n fun j => ((if j = x then y else lab j : Nat) : Int) := by
      unfold rowF
      refine List.map_congr_left fun j _ => ?_
      unfold upd
      split <;> simp_all
    rwa [e2] at e
  · have := h.tu.setSym (s := srcs zs n) (by omega) x (.int .i64 (y : Int))
    simpa [bkL] using this

/-- a new variable that holds a ref -/
structure Var (P : Pl) (zs : List Int) (n : Nat) (W : World) (nb : Nat) (r : Ref) : Prop where
  blk : Blk W nb 44 [.int .u32 (r.1 : Int), .int .u32 (r.2 : Int)]
  far : ∀ s, s < srcs zs n → P.bk s ≠ nb
theorem Var.turn {nb : Nat} {r : Ref} (h : Var P zs n W nb r) (t : Turn W W2 P.bk (srcs zs n)) : Var P zs n W2 nb r := ⟨t.blk h.blk h.far, h.far⟩

/-- the two lists' places, the merge's answer and the common end of the three chains -/
structure Rnd (P : Pl) (zs : List Int) (n : Nat) (w0 W : World) (τ : Tab) (lab lab2 : Nat → Nat) (B : Nat) (xo xw : Nat) (r rt : Ref) : Prop where
  st : St P zs n w0 W τ lab
  uf : Uf zs n τ lab2 B
  co : ∃ e, Chain (srcs zs n) τ e (ref zs n xo) rt
  cw : ∃ e, Chain (srcs zs n) τ e (ref zs n xw) rt
  cr : ∃ e, Chain (srcs zs n) τ e r rt
variable {lab2 : Nat → Nat} {B xo xw : Nat} {r rt : Ref}
theorem Rnd.kept (h : Rnd P zs n w0 W τ lab lab2 B xo xw r rt) (k : Kept W W2) : Rnd P zs n w0 W2 τ lab lab2 B xo xw r rt := ⟨h.st.kept k, h.uf, h.co, h.cw, h.cr⟩

theorem Rnd.follow (h : Rnd P zs n w0 W τ lab lab2 B xo xw r rt) (hS : srcs zs n ≤ 1048576) {d : Nat} {p : Ref} (hc : Chain (srcs zs n) τ d p rt) (a : Arena W2 P.g P.bk (srcs zs n) (relink τ (path τ d p) rt)) (t : Turn W W2 P.bk (srcs zs n)) :
    Rnd P zs n w0 W2 (relink τ (path τ d p) rt) lab lab2 B xo xw r rt := by
  have hri : rt ≠ inv := fun e => inv_not hS (e ▸ hc.root.valid)
  refine ⟨h.st.turn a t, h.uf.follow hS hc, ?_, ?_, ?_⟩
  · obtain ⟨e, k⟩ := h.co; exact Chain.after hc k hri
  · obtain ⟨e, k⟩ := h.cw; exact Chain.after hc k hri
  · obtain ⟨e, k⟩ := h.cr; exact Chain.after hc k hri
theorem Rnd.merge (h : St P zs n w0 W τ lab) (u : Uf zs n τ lab B) {d : Ref → Nat} {root : Ref → Ref} (hs : chain.Sys (srcs zs n) τ d root) (hxo : xo < n) (hxw : xw < n) (a : Arena W2 P.g P.bk (srcs zs n) τ2) (t : Turn W W2 P.bk (srcs zs n))
    (m : Mg (srcs zs n) τ d root (root (ref zs n xo)) (root (ref zs n xw)) τ2) (hv : Valid (srcs zs n) τ r) (hr : cls root (root (ref zs n xo)) (root (ref zs n xw)) r = root (ref zs n xw)) :
    Rnd P zs n w0 W2 τ2 lab (fun x => if lab x = lab xo then lab xw else lab x) B xo xw r (root (ref zs n xw)) := by
  refine ⟨h.turn a t, u.merge hs hxo hxw m, ?_, ?_, ?_⟩
  · have := m.chain hs _ _ (Nat.le_refl _) (u.val hxo)
    unfold cls at this
    rwa [if_pos rfl] at this
  · have := m.chain hs _ _ (Nat.le_refl _) (u.val hxw)
    unfold cls at this
    split at this
    · exact this
    · exact this
  · have := m.chain hs _ _ (Nat.le_refl _) hv
    rwa [hr] at this
end

/-- what a call beside an allocation is told of the new block -/
def Cells0 (W w' : World) (n6 : Nat) : Prop :=
  (W.cell? ⟨n6, 0, none⟩ = some (.int .u32 0) → w'.cell? ⟨n6, 0, none⟩ = some (.int .u32 0) ∧ w'.frozen? ⟨n6, 0, none⟩ = W.frozen? ⟨n6, 0, none⟩) ∧ (W.cell? ⟨n6, 1, none⟩ = some (.int .u32 0) → w'.cell? ⟨n6, 1, none⟩ = some (.int .u32 0) ∧ w'.frozen? ⟨n6, 1, none⟩ = W.frozen? ⟨n6, 1, none⟩)
/-- what a round's region reads -/
def Rds (P : Pl) (zs : List Int) (n xo xw : Nat) (W : World) : Prop :=
  W.cell? ⟨P.mb, 0, none⟩ = some (.slice (some ⟨P.g, 0, none⟩) (srcs zs n) (srcs zs n)) ∧ W.cell? ⟨P.rf, xo * 2, none⟩ = some (.int .u32 ((ref zs n xo).1 : Int)) ∧ W.cell? ⟨P.rf, xo * 2 + 1, none⟩ = some (.int .u32 ((ref zs n xo).2 : Int)) ∧ W.cell? ⟨P.rf, xw * 2, none⟩ = some (.int .u32 ((ref zs n xw).1 : Int)) ∧ W.cell? ⟨P.rf, xw * 2 + 1, none⟩ = some (.int .u32 ((ref zs n xw).2 : Int))
theorem St.rds {P : Pl} {zs : List Int} {n : Nat} {w0 W : World} {τ : Tab} {lab : Nat → Nat} (h : St P zs n w0 W τ lab) {xo xw : Nat} (hxo : xo < n) (hxw : xw < n) : Rds P zs n xo xw W :=
  ⟨h.box.cell 0, (h.refs.cells hxo).1, (h.refs.cells hxo).2, (h.refs.cells hxw).1, (h.refs.cells hxw).2⟩

/-- MergeSymbols in a round -/
theorem mergeK {P : Pl} {zs : List Int} {n : Nat} {w0 W0 : World} {τ : Tab} {lab : Nat → Nat} {B xo xw : Nat} (h : St P zs n w0 W0 τ lab) (u : Uf zs n τ lab B) (hxo : xo < n) (hxw : xw < n) (W : World) (k : Kept W0 W) (n6 : Nat) (hn6 : Hid (∀ s, s < srcs zs n → P.bk s ≠ n6)) :
    Calls Tryd.prog 17 #[mapV P.g (srcs zs n), refV (ref zs n xo), refV (ref zs n xw)] W fun e w' => ∃ r rt τ2, e = .returned (refV r) ∧ Rds P zs n xo xw w' ∧ Cells0 W w' n6 ∧ Hid (Rnd P zs n w0 w' τ2 lab (fun x => if lab x = lab xo then lab xw else lab x) B xo xw r rt) ∧ Hid (Turn W w' P.bk (srcs zs n)) := by
  obtain ⟨d, root, hs⟩ := Sys.of u.ends
  have hk := h.kept k
  refine (arena.merge P.g P.bk (srcs zs n) τ d root hs u.flags (fun s hs => (h.far s hs).2.2.2.2.2) (root (ref zs n xo)) (root (ref zs n xw)) _ (ref zs n xo) (ref zs n xw) W rfl rfl rfl (u.val hxo) (u.val hxw) hk.ar hk.inv).mono ?_
  rintro e w' ⟨τ2, r, rfl, a, t, m, hv, hc, _, _⟩
  have hR := Rnd.merge hk u hs hxo hxw a t m hv hc
  exact ⟨r, _, τ2, rfl, hR.st.rds hxo hxw, ⟨t.at n6 hn6.out 0 _, t.at n6 hn6.out 1 _⟩, Lib.hid hR, Lib.hid t⟩
/-- FollowSymbols in a round -/
theorem followK {P : Pl} {zs : List Int} {n : Nat} {w0 W0 : World} {τ : Tab} {lab lab2 : Nat → Nat} {B xo xw : Nat} {r rt : Ref} (h : Rnd P zs n w0 W0 τ lab lab2 B xo xw r rt) (hS : srcs zs n ≤ 1048576) (hxo : xo < n) (hxw : xw < n) {p : Ref} (hp : ∃ e, Chain (srcs zs n) τ e p rt) (W : World) (k : Kept W0 W) (n6 : Nat) (hn6 : Hid (∀ s, s < srcs zs n → P.bk s ≠ n6)) :
    Calls Tryd.prog 19 #[mapV P.g (srcs zs n), refV p] W fun e w' => ∃ τ2, e = .returned (refV rt) ∧ Rds P zs n xo xw w' ∧ Cells0 W w' n6 ∧ Hid (Rnd P zs n w0 w' τ2 lab lab2 B xo xw r rt) ∧ Hid (Turn W w' P.bk (srcs zs n)) := by
  obtain ⟨d, hc⟩ := hp
  have hk := h.kept k
  refine (arena.follow P.g P.bk (srcs zs n) τ rt (fun s hs => (h.st.far s hs).2.2.2.2.2) d p W hk.st.ar hk.st.inv hc).mono ?_
  rintro e w' ⟨rfl, a, t⟩
  have hR := hk.follow hS hc a t
  exact ⟨_, rfl, hR.st.rds hxo hxw, ⟨t.at n6 hn6.out 0 _, t.at n6 hn6.out 1 _⟩, Lib.hid hR, Lib.hid t⟩
/-- behind the two ways of a call beside an allocation -/
structure Aft (P : Pl) (zs : List Int) (n : Nat) (w0 wr W : World) (τ : Tab) (lab lab2 : Nat → Nat) (B xo xw : Nat) (r rt : Ref) (nb : Nat) (q : Ref) : Prop where
  rnd : Rnd P zs n w0 W τ lab lab2 B xo xw r rt
  var : Var P zs n W nb q
  tu : Turn wr W P.bk (srcs zs n)
section
variable {P : Pl} {zs : List Int} {n : Nat} {w0 wr w' : World} {τ : Tab} {lab lab2 : Nat → Nat} {B xo xw : Nat} {r rt : Ref}
theorem aftA (hl : ∀ s, s < srcs zs n → P.bk s < wr.heap.size) (h : Rnd P zs n w0 w' τ lab lab2 B xo xw r rt) (t : Turn wr.drew w' P.bk (srcs zs n)) (q : Ref) : Aft P zs n w0 wr (w'.alloc (.cells #[.int .u32 (q.1 : Int), .int .u32 (q.2 : Int)] 44)) τ lab lab2 B xo xw r rt w'.heap.size q :=
  ⟨h.kept ((Kept.refl _).alloc _), ⟨Blk.new w' 44 [.int .u32 (q.1 : Int), .int .u32 (q.2 : Int)], fun s hs => by have := hl s hs; have := t.size; simp at this; omega⟩, ((Turn.of_kept (Kept.refl wr).drew _ _).trans t).alloc _⟩
theorem aftB (hl : ∀ s, s < srcs zs n → P.bk s < wr.heap.size) (h : Rnd P zs n w0 w' τ lab lab2 B xo xw r rt) (t : Turn (wr.alloc (.cells #[.int .u32 0, .int .u32 0] 44)).drew w' P.bk (srcs zs n)) (hw : Blk wr P.rf 44 (cells2 (fillR (ref zs n) n n)) ∧ Blk wr P.mb 39 [.slice (some ⟨P.g, 0, none⟩) (srcs zs n) (srcs zs n)] ∧ P.cb < wr.heap.size ∧ P.sb < wr.heap.size ∧ P.lb < wr.heap.size ∧ P.g < wr.heap.size ∧ 0 < wr.heap.size ∧ w0.heap.size ≤ wr.heap.size) (q : Ref) :
    Aft P zs n w0 wr ((w'.setCell ⟨wr.heap.size, 0, none⟩ (.int .u32 (q.1 : Int))).setCell ⟨wr.heap.size, 1, none⟩ (.int .u32 (q.2 : Int))) τ lab lab2 B xo xw r rt wr.heap.size q := by
  have hfar : ∀ s, s < srcs zs n → P.bk s ≠ wr.heap.size := fun s hs => by have := hl s hs; omega
  have hb : Blk w' wr.heap.size 44 [.int .u32 0, .int .u32 0] := t.blk (Blk.new wr 44 [.int .u32 0, .int .u32 0]).drew hfar
  have key : ∀ {V : World} (i : Nat) (u : Value), Rnd P zs n w0 V τ lab lab2 B xo xw r rt → Rnd P zs n w0 (V.setCell ⟨wr.heap.size, i, none⟩ u) τ lab lab2 B xo xw r rt := by
    intro V i u hV
    have h1 := hw.1.lt
    have h2 := hw.2.1.lt
    obtain ⟨_, _, h3, h4, h5, h6, h7, h8⟩ := hw
    have ne : ∀ b, b < wr.heap.size → b ≠ (⟨wr.heap.size, i, none⟩ : Addr).block := fun b hb => by show b ≠ wr.heap.size; omega
    refine ⟨⟨hV.st.box.far (ne _ h2) _, (show Blk _ _ _ _ from hV.st.refs).far (ne _ h1) _, ⟨by simpa using hV.st.cnts.1, fun i hi => ?_⟩, ⟨by simpa using hV.st.sts.1, fun i hi => ?_⟩, ⟨?_, ?_⟩, hV.st.ar.far (ne _ h6) (fun s hs => by have := hl s hs; exact ne _ this) _, hV.st.lab.far (ne _ h5) _, hV.st.tu.setNew h8 _, hV.st.far, hV.st.far2⟩, hV.uf, hV.co, hV.cw, hV.cr⟩
    · rw [otherB]
      · exact hV.st.cnts.2 i hi
      · exact ne _ h3
    · rw [otherB]
      · exact hV.st.sts.2 i hi
      · exact ne _ h4
    · rw [otherB]
      · exact hV.st.inv.1
      · exact ne _ h7
    · rw [otherB]
      · exact hV.st.inv.2
      · exact ne _ h7
  refine ⟨key 1 _ (key 0 _ h), ⟨(hb.set 0 (.int .u32 (q.1 : Int))).set 1 (.int .u32 (q.2 : Int)), hfar⟩, ?_⟩
  exact (((Turn.of_kept ((Kept.refl wr).alloc _).drew _ _).trans t).setNew (Nat.le_refl _) _).setNew (Nat.le_refl _) _
theorem St.low {W : World} (h : St P zs n w0 W τ lab) : Blk W P.rf 44 (cells2 (fillR (ref zs n) n n)) ∧ Blk W P.mb 39 [.slice (some ⟨P.g, 0, none⟩) (srcs zs n) (srcs zs n)] ∧ P.cb < W.heap.size ∧ P.sb < W.heap.size ∧ P.lb < W.heap.size ∧ P.g < W.heap.size ∧ 0 < W.heap.size ∧ w0.heap.size ≤ W.heap.size :=
  ⟨h.refs, h.box, h.cnts.1, h.sts.1, h.lab.lt, h.ar.outer.lt, World.block_lt_of_cell? W _ h.inv.1, h.tu.size⟩
end
/-- what the region of the merge leaves -/
def C42 (P : Pl) (zs : List Int) (n : Nat) (w0 wr : World) (lab lab2 : Nat → Nat) (B xo xw : Nat) (t : Value) (W : World) : Prop :=
  ∃ (nb : Nat) (r rt : Ref) (τ2 : Tab), t = .pointer (some ⟨nb, 0, none⟩) ∧ Hid (Aft P zs n w0 wr W τ2 lab lab2 B xo xw r rt nb r)
/-- what the region of a follow leaves -/
def C45 (P : Pl) (zs : List Int) (n : Nat) (w0 wr : World) (lab lab2 : Nat → Nat) (B xo xw : Nat) (r rt : Ref) (t : Value) (W : World) : Prop :=
  ∃ (nb : Nat) (τ2 : Tab), t = .pointer (some ⟨nb, 0, none⟩) ∧ Hid (Aft P zs n w0 wr W τ2 lab lab2 B xo xw r rt nb rt)
/-- the script's relation -/
def C21 (P : Pl) (zs : List Int) (n : Nat) (w0 : World) (B op : Nat) (t : Value) (W : World) : Prop :=
  ∃ (j : Nat) (τ : Tab) (lab : Nat → Nat), j ≤ op ∧ t = .int .i64 (j : Int) ∧ Hid (St P zs n w0 W τ lab ∧ Uf zs n τ lab B)
/-- the relabelling's relation -/
def C30 (P : Pl) (zs : List Int) (n : Nat) (w0 : World) (τ : Tab) (lab : Nat → Nat) (xo xw : Nat) (t : Value) (W : World) : Prop :=
  ∃ k : Nat, k ≤ n ∧ t = .int .i64 (k : Int) ∧ Hid (St P zs n w0 W τ (fun x => if x < k ∧ lab x = lab xo then lab xw else lab x))
theorem St.congr {P : Pl} {zs : List Int} {n : Nat} {w0 W : World} {τ : Tab} {lab lab2 : Nat → Nat} (h : St P zs n w0 W τ lab) (e : ∀ x, x < n → lab x = lab2 x) : St P zs n w0 W τ lab2 := by
  have e2 : (rowF .i64 n fun x => (lab x : Int)) = rowF .i64 n fun x => (lab2 x : Int) := by
    unfold rowF
    exact List.map_congr_left fun j hj => by simp only; rw [e j (List.mem_range.1 hj)]
  exact ⟨h.box, h.refs, h.cnts, h.sts, h.inv, h.ar, e2 ▸ h.lab, h.tu, h.far, h.far2⟩
theorem St.step {P : Pl} {zs : List Int} {n : Nat} {w0 W : World} {τ : Tab} {lab : Nat → Nat} {xo xw k : Nat} (h : St P zs n w0 W τ (fun x => if x < k ∧ lab x = lab xo then lab xw else lab x)) (hk : k < n) (e : lab k = lab xo) :
    St P zs n w0 (W.setCell ⟨P.lb, k, none⟩ (.int .i64 (lab xw : Int))) τ (fun x => if x < k + 1 ∧ lab x = lab xo then lab xw else lab x) := by
  refine (h.put (x := k) (y := lab xw) hk).congr (fun x _ => ?_)
  by_cases hx : x = k
  · subst hx
    rw [if_pos rfl, if_pos ⟨Nat.lt_succ_self _, e⟩]
  · rw [if_neg hx]
    by_cases h2 : x < k ∧ lab x = lab xo
    · rw [if_pos h2, if_pos ⟨by omega, h2.2⟩]
    · rw [if_neg h2, if_neg (fun hh => h2 ⟨by omega, hh.2⟩)]
theorem St.stay {P : Pl} {zs : List Int} {n : Nat} {w0 W : World} {τ : Tab} {lab : Nat → Nat} {xo xw k : Nat} (h : St P zs n w0 W τ (fun x => if x < k ∧ lab x = lab xo then lab xw else lab x)) (e : lab k ≠ lab xo) :
    St P zs n w0 W τ (fun x => if x < k + 1 ∧ lab x = lab xo then lab xw else lab x) := by
  refine h.congr (fun x _ => ?_)
  by_cases h2 : x < k ∧ lab x = lab xo
  · rw [if_pos h2, if_pos ⟨by omega, h2.2⟩]
  · rw [if_neg h2, if_neg (fun hh => h2 ⟨by have : x ≠ k := fun q => e (q ▸ hh.2); omega, hh.2⟩)]
theorem St.labAt {P : Pl} {zs : List Int} {n : Nat} {w0 W : World} {τ : Tab} {lab : Nat → Nat} (h : St P zs n w0 W τ lab) {x : Nat} (hx : x < n) : W.cell? ⟨P.lb, x, none⟩ = some (.int .i64 (lab x : Int)) := (h.lab.cell x).trans (rowF_at .i64 (fun x => (lab x : Int)) hx)
theorem neSame (W : World) (q : Ref) : (binOp .neq 44 (.agg #[.int .u32 (q.1 : Int), .int .u32 (q.2 : Int)]) (.agg #[.int .u32 (q.1 : Int), .int .u32 (q.2 : Int)])).run Tryd.prog W = .ok (.bool false) W := by
  have := neRef W q q
  simpa using this
theorem flatK {P : Pl} {zs : List Int} {n : Nat} {w0 W : World} {τ : Tab} {lab lab2 : Nat → Nat} {B xo xw : Nat} {r rt : Ref} (h : Rnd P zs n w0 W τ lab lab2 B xo xw r rt) (hn : n ≤ 4096) (hS : srcs zs n ≤ 4097) (c : Nat) :
    Calls Tryd.prog 18 #[refV r, .slice (some ⟨P.cb, 0, none⟩) (srcs zs n) c, .slice (some ⟨P.sb, 0, none⟩) (srcs zs n) (srcs zs n)] W fun e w' => (∃ x : Nat, e = .returned (.int .i64 (x : Int))) ∧ Kept W w' := by
  obtain ⟨e, hc⟩ := h.cr
  obtain ⟨x, hx, rfl⟩ := (h.uf.flat _).1 hc.valid
  refine (flatC P.cb c P.sb n x zs W h.st.cnts h.st.sts hx hn hS).mono ?_
  rintro e w' ⟨rfl, k⟩
  exact ⟨⟨x, rfl⟩, k⟩
/-- the last sum, as the last loop reckons it -/
noncomputable def sumR (zs : List Int) (n : Nat) (σ : Tab) (k : Nat) : Nat := sumTo (fun x => if tgt zs n σ x < 0 then (symAt σ (ref zs n x)).use else 0) k
theorem sumR_root {zs : List Int} {n : Nat} {σ : Tab} {lab : Nat → Nat} {B : Nat} (h : Uf zs n σ lab B) (hS : srcs zs n ≤ 1048576) : sumR zs n σ n % 4294967296 = B % 4294967296 := by
  rw [← h.sum]
  congr 1
  refine sumTo_congr (fun x hx => ?_)
  rcases h.tgt_or hS hx with ⟨e1, e2⟩ | ⟨y, hy, e1, e2⟩
  · rw [e2, e1, if_pos (by omega), if_pos rfl]
  · rw [e2, e1, if_neg (by omega), if_neg (ref_inv hy hS)]
/-- the filling loop's relation -/
def C37 (w1 : World) (a b n : Nat) (t : Value) (W : World) : Prop :=
  ∃ k : Nat, k ≤ n ∧ t = .int .i64 (k : Int) ∧ Hid (Blk W a 3 (fillV (fun _ => .int .i64 (-1)) (.int .i64 0) n k) ∧ Blk W b 3 (fillV (fun _ => .int .i64 (-1)) (.int .i64 0) n k) ∧ Kept w1 W)
/-- the last loop's relation -/
def C39 (w1 : World) (a b n : Nat) (zs : List Int) (τ : Tab) (lab R : Nat → Nat) (t t2 : Value) (W : World) : Prop :=
  ∃ k : Nat, k ≤ n ∧ t2 = .int .i64 (k : Int) ∧ t = .int .u32 ((sumR zs n τ k % 4294967296 : Nat) : Int) ∧ Hid (Blk W a 3 (rowF .i64 n (bij lab R k).1) ∧ Blk W b 3 (rowF .i64 n (bij lab R k).2) ∧ Kept w1 W)
theorem C37.last {w1 : World} {a b n : Nat} {W : World} {zs : List Int} {τ : Tab} {lab R : Nat → Nat} (h : Blk W a 3 (fillV (fun _ => .int .i64 (-1)) (.int .i64 0) n n) ∧ Blk W b 3 (fillV (fun _ => .int .i64 (-1)) (.int .i64 0) n n) ∧ Kept w1 W) :
    C39 w1 a b n zs τ lab R (.int .u32 0) (.int .i64 0) W := by
  have e : fillV (fun _ => Value.int .i64 (-1)) (.int .i64 0) n n = rowF .i64 n (fun _ => -1) := by
    unfold fillV rowF
    exact List.map_congr_left fun j hj => by simp only; rw [if_pos (List.mem_range.1 hj)]
  rw [e] at h
  exact ⟨0, Nat.zero_le _, rfl, rfl, Lib.hid h⟩
theorem rowPut {W : World} {a n x : Nat} {f : Nat → Int} {v : Int} (h : Blk W a 3 (rowF .i64 n f)) (hx : x < n) : Blk (W.setCell ⟨a, x, none⟩ (.int .i64 v)) a 3 (rowF .i64 n (setAt f x v)) := by
  have e := h.set x (.int .i64 v)
  rw [rowF_set .i64 f v hx] at e
  exact e
theorem rowAt {W : World} {a n x : Nat} {f : Nat → Int} (h : Blk W a 3 (rowF .i64 n f)) (hx : x < n) : W.cell? ⟨a, x, none⟩ = some (.int .i64 (f x)) := (h.cell x).trans (rowF_at .i64 f hx)
theorem intAt {W : World} {a n x : Nat} {f : Nat → Int} (h : IntAt W a ((List.range n).map f)) (hx : x < n) : W.cell? ⟨a, x, none⟩ = some (.int .i64 (f x)) := by
  have e := h.2 x (by simpa using hx)
  simpa [hx] using e
theorem fieldUse (nm : ByteArray) (x y us fl kd : Int) (W : World) : (Instr.field 57 (.agg #[.pointer none, .string nm, .int .u32 x, .int .u32 y, .int .u32 us, .int .u32 0, .int .u32 0, .int .u16 fl, .int .u8 kd, .int .u8 0]) 3).run Tryd.prog W = .ok (.int .u32 us) W := by kernel_rfl
theorem cellK {w0 : World} {g : Nat} {bk : Nat → Nat} {S : Nat} {σ : Tab} {p : Ref} (h : Arena w0 g bk S σ) (hp : Valid S σ p) (W : World) (k : Kept w0 W) :
    Calls Tryd.prog 21 #[mapV g S, refV p] W fun e w' => (∃ nm la lb fl kd, e = .returned (.agg #[.pointer none, .string nm, .int .u32 la, .int .u32 lb, .int .u32 ((symAt σ p).use : Int), .int .u32 0, .int .u32 0, .int .u16 fl, .int .u8 kd, .int .u8 0])) ∧ Kept W w' := by
  refine (cellC W g bk S σ p (h.kept k) hp).mono ?_
  rintro e w' ⟨rfl, k2⟩
  exact ⟨⟨(symAt σ p).name, ((symAt σ p).la : Int), ((symAt σ p).lb : Int), ((symAt σ p).flags : Int), ((symAt σ p).kind : Int), rfl⟩, k2⟩
theorem St.below {P : Pl} {zs : List Int} {n : Nat} {w0 W w : World} {τ : Tab} {lab : Nat → Nat} (h : St P zs n w0 W τ lab) (k : Kept w w0) (hb : ∀ s, s < srcs zs n → w.heap.size ≤ P.bk s) (hl : w.heap.size ≤ P.lb) : Kept w W :=
  Below.trans k (h.tu.below (fun s hs => by
    unfold bkL
    split
    · exact hb s (by assumption)
    · exact hl) k.size)
theorem modN (p : Int) {n : Nat} (hn : 1 ≤ n) (hn2 : n ≤ 4096) : ∃ x : Nat, x < n ∧ p % (n : Int) = (x : Int) ∧ wrap64 (x : Int) = (x : Int) ∧ (x : Int) < (n : Int) := by
  have h1 := Int.emod_nonneg p (show (n : Int) ≠ 0 by omega)
  have h2 := Int.emod_lt_of_pos p (show (0 : Int) < n by omega)
  generalize p % (n : Int) = q at *
  refine ⟨q.toNat, by omega, by omega, ?_, by omega⟩
  unfold wrap64
  omega
end Go.Proofs.YticcbjgjjmmbcaaDoor.scr
