/-
  The starter from its entry to its first go statement, in company of nobody.
  Conditions: the rows are readable.
-/
import Derived.Conc.CrowdRun
import Derived.Test.YtgjhmbbbkkidlaaGreatDoorXe
import Derived.Test.YtgjhmbbbkkidlaaGreatDoorXf
import Derived.Test.YtgjhmbbbkkidlaaGreatDoorXi
import Derived.Test.YtgjhmbbbkkidlaaGreatDoorJe
namespace Go.Proofs.YtgjhmbbbkkidlaaGreatDoor.hash
open Go.ChangeShapes Go.WideShapes Go.ChangeAt Go.RowKit
open Go.Proofs.YtgjhmbbbkkidlaaGreatDoor.kit
open Go.Conc
open Go.Proofs.YtgjhmbbbkkidlaaGreatDoor.sim (Sit Stops Working Dsc Own StR c0 Live Agrees Fin Gd0 onT Rn WH WR ArR VR View Sees MS At Reach FkR FrR TodoR Cut OkC okCB okC_of ice ice_cell ice_wh ice_size rowOf row_cell C0)
noncomputable def body3 : Code := Tryz.f3.body.getD .skip
theorem body3_eq : Tryz.f3.body = some body3 := rfl
def cutB (P : Program) : Nat → Code → Bool
  | n + 1, .seq x y => okCB P x && cutB P n y
  | _, _ => true
theorem cut_of {P : Program} : ∀ (n : Nat) (c : Code), cutB P n c = true → sim.spine n c = sim.cutTail P "cutcutcutcutcu" → Cut P (cutC n c) c := by
  intro n
  induction n with
  | zero =>
    intro c _ h
    have e : sim.spine 0 c = c := by cases c <;> rfl
    rw [e] at h
    have e2 : cutC 0 c = .refuse "cutcutcutcutcu" := by cases c <;> rfl
    rw [e2, h]
    exact .here _
  | succ n ih =>
    intro c hc h
    cases c with
    | seq x y =>
      unfold cutB at hc
      rw [Bool.and_eq_true] at hc
      exact .seq (okC_of hc.1) (ih y hc.2 h)
    | _ =>
      first
        | (have e := h
           unfold sim.spine at e
           unfold cutC
           rw [e]
           exact .here _)
theorem cutTail14 : sim.cutTail Tryz.prog "cutcutcutcutcu" = sim.spine 14 body3 := by
  unfold sim.cutTail
  rw [Tryz.func3]
  rfl
theorem cut3 : Cut Tryz.prog (cutC 14 body3) body3 := cut_of 14 body3 (by kernel_rfl) cutTail14.symm
/-- the block is a row of cells -/
def IsRow (W : World) (b : Nat) : Prop := ∃ c e fr, W.heap[b]? = some (Obj.cells c e fr)
def SelfV (W : World) (v : Value) : Prop := ∀ a l c, v = .slice (some a) l c → 0 < l + c → IsRow W a.block
theorem isRow_of {W : World} {a : Addr} {x : Value} (h : W.cell? a = some x) : IsRow W a.block := by
  unfold World.cell? at h
  cases e : W.heap[a.block]? with
  | none => rw [e] at h; cases h
  | some o =>
    rw [e] at h
    cases o with
    | cells c t fr => exact ⟨c, t, fr, e⟩
    | _ => cases h
/-- each row stands for itself -/
def rho0 (W : World) : Rn where
  rel := fun b b' => b' = b ∧ IsRow W b
  own := fun _ => False
  g0 := 2
  fn := fun a b c h1 h2 => h1.1.trans h2.1.symm
  inj := fun a b c h1 h2 => h1.1.symm.trans h2.1
  low := fun a b h _ => h.1
noncomputable def lone0 (W : World) : World := ice (rho0 W) W W fun b => (rowOf W b).size
theorem lone0_cell {W : World} {b i : Nat} {x : Value} (h : W.cell? ⟨b, i, none⟩ = some x) (hx : VR (rho0 W) x x) : (lone0 W).cell? ⟨b, i, none⟩ = some x :=
  ice_cell (b' := b) ⟨rfl, isRow_of h⟩ (row_cell h).2.1 h h hx
theorem self_slice {W : World} {v : Value} (h : SelfV W v) {A : Option Addr} {l c : Nat} (e : v = .slice A l c) : VR (rho0 W) v v := by
  subst e
  cases A with
  | none => exact .nilSlice _ _
  | some a => exact .slice _ _ fun p => ⟨⟨rfl, h a l c rfl p⟩, rfl, rfl⟩
theorem lone0_row {W : World} {a : Option Addr} {n cap : Nat} {xs : List Value} (h : Row W a n cap xs) (hx : ∀ x ∈ xs, VR (rho0 W) x x) : Row (lone0 W) a n cap xs :=
  ⟨h.1, h.2.1, h.2.2.1, h.2.2.2.1, fun hn => by
    obtain ⟨b, off, e, hb, hc⟩ := h.2.2.2.2 hn
    exact ⟨b, off, e, by unfold lone0; rw [ice_size]; exact hb, fun i hi => lone0_cell (hc i hi) (hx _ (List.getElem_mem hi))⟩⟩
/-- what came in -/
structure Inp (W : World) (A B1 B2 B3 B4 : Option Addr) (n cap n1 n2 n3 n4 c1 c2 c3 c4 : Nat) (ls : List (List Int)) (xs1 ys1 xs2 ys2 : List Int) : Prop where
  g0 : IsRow W 0
  g1 : W.cell? ⟨1, 0, none⟩ = some (.int .u64 11400714785074694791)
  rows : ls.length = n ∧ ∃ vs : Nat → Value, (∀ i, i < n → OneB W (vs i) (ls.getD i []) ∧ SelfV W (vs i)) ∧ (0 < n → ∃ b off, A = some ⟨b, off, none⟩ ∧ b < W.heap.size ∧ ∀ i, i < n → W.cell? ⟨b, off + i, none⟩ = some (vs i))
  r1 : Row W B1 n1 c1 (xs1.map (Value.int .u32))
  r2 : Row W B2 n2 c2 (ys1.map (Value.int .u8))
  r3 : Row W B3 n3 c3 (xs2.map (Value.int .u32))
  r4 : Row W B4 n4 c4 (ys2.map (Value.int .u8))
  s0 : SelfV W (.slice A n cap)
  s1 : SelfV W (.slice B1 n1 c1)
  s2 : SelfV W (.slice B2 n2 c2)
  s3 : SelfV W (.slice B3 n3 c3)
  s4 : SelfV W (.slice B4 n4 c4)
def args3 (path : ByteArray) (A B1 B2 B3 B4 : Option Addr) (n cap n1 n2 n3 n4 c1 c2 c3 c4 : Nat) : Array Value := #[.string path, .slice A n cap, .slice B1 n1 c1, .slice B2 n2 c2, .slice B3 n3 c3, .slice B4 n4 c4]
section
variable {W : World} {path : ByteArray} {A B1 B2 B3 B4 : Option Addr} {n cap n1 n2 n3 n4 c1 c2 c3 c4 : Nat} {ls : List (List Int)} {xs1 ys1 xs2 ys2 : List Int}
theorem ints_self {k : IntKind} {ρ : Rn} {xs : List Int} : ∀ x ∈ xs.map (Value.int k), VR ρ x x := fun x hx => by
  obtain ⟨n, _, rfl⟩ := List.mem_map.1 hx
  exact .int _ _
theorem Inp.lone (h : Inp W A B1 B2 B3 B4 n cap n1 n2 n3 n4 c1 c2 c3 c4 ls xs1 ys1 xs2 ys2) : (lone0 W).cell? ⟨1, 0, none⟩ = some (.int .u64 11400714785074694791) ∧ Rows8 (lone0 W) A n ls ∧ Row (lone0 W) B1 n1 c1 (xs1.map (Value.int .u32)) ∧ Row (lone0 W) B2 n2 c2 (ys1.map (Value.int .u8)) ∧ Row (lone0 W) B3 n3 c3 (xs2.map (Value.int .u32)) ∧ Row (lone0 W) B4 n4 c4 (ys2.map (Value.int .u8)) := by
  refine ⟨lone0_cell h.g1 (.int _ _), ⟨h.rows.1, ?_⟩, lone0_row h.r1 ints_self, lone0_row h.r2 ints_self, lone0_row h.r3 ints_self, lone0_row h.r4 ints_self⟩
  obtain ⟨vs, h1, h2⟩ := h.rows.2
  refine ⟨vs, fun i hi => ?_, fun hn => ?_⟩
  · obtain ⟨⟨a, c, e, hr⟩, _⟩ := h1 i hi
    exact ⟨a, c, e, lone0_row hr fun x hx => by
      obtain ⟨n, _, rfl⟩ := List.mem_map.1 hx
      exact .int _ _⟩
  · obtain ⟨b, off, e, hb, hc⟩ := h2 hn
    refine ⟨b, off, e, by unfold lone0; rw [ice_size]; exact hb, fun i hi => ?_⟩
    obtain ⟨⟨a, c, e2, _⟩, hs⟩ := h1 i hi
    exact lone0_cell (hc i hi) (self_slice hs e2)
theorem cell_heap {w w2 : World} (h : w2.heap = w.heap) (a : Addr) : w2.cell? a = w.cell? a := by unfold World.cell?; rw [h]
theorem Ready.heap {w w2 : World} {lb cb : Nat} (h : Ready w path ls lb cb) (e : w2.heap = w.heap) : Ready w2 path ls lb cb := by
  have hb : ∀ {b t cs}, Blk w b t cs → Blk w2 b t cs := fun h => by unfold Blk at h ⊢; rw [e]; exact h
  refine ⟨(cell_heap e _).trans h.g1, ?_, ?_, h.hn, h.hq⟩
  · obtain ⟨ob, lcs, ocs, h1, h2, h3, h4, h5⟩ := h.l
    exact ⟨ob, lcs, ocs, hb h1, h2, h3, hb h4, h5⟩
  · obtain ⟨ccs, h1, h2, h3⟩ := h.c
    refine ⟨ccs, hb h1, h2, fun k hk => ⟨(h3 k hk).z, ?_⟩⟩
    obtain ⟨pb, pcs, h4, h5, h6⟩ := (h3 k hk).p
    refine ⟨pb, pcs, h4, hb h5, fun i hi => ?_⟩
    obtain ⟨A, x, y, p1, p2, p3, p6, p7⟩ := h6 i hi
    refine ⟨A, x, y, p1, p2, p3, p6, fun hp => ?_⟩
    obtain ⟨b, o, q1, q2, q3⟩ := p7 hp
    exact ⟨b, o, q1, q2, fun j hj => (cell_heap e _).trans (q3 j hj)⟩
theorem Row.heap {w w2 : World} {a : Option Addr} {n c : Nat} {xs : List Value} (h : Row w a n c xs) (e : w2.heap = w.heap) : Row w2 a n c xs := h.far (by rw [e]; exact Nat.le_refl _) fun b _ _ => by rw [e]
theorem Rows8.heap {w w2 : World} {a : Option Addr} {n : Nat} (h : Rows8 w a n ls) (e : w2.heap = w.heap) : Rows8 w2 a n ls := by
  obtain ⟨h1, vs, h2, h3⟩ := h
  refine ⟨h1, vs, fun i hi => ?_, fun hn => ?_⟩
  · obtain ⟨a, c, e1, r⟩ := h2 i hi
    exact ⟨a, c, e1, Row.heap r e⟩
  · obtain ⟨b, off, e1, hb, hc⟩ := h3 hn
    exact ⟨b, off, e1, by rw [e]; exact hb, fun i hi => (cell_heap e _).trans (hc i hi)⟩
/-- where the starter's first walk ends -/
def MQ (v : World) (path : ByteArray) (ls : List (List Int)) (s : Sit) : Prop :=
  s.cs = [c0 Tryz.prog] ∧ ((∃ a, AtGo v path ls a s.v ∧ s.fr = (base 3).at a [.code (.refuse "cutcutcutcutcu")]) ∨ ∃ a todo, Early a s.v ∧ s.fr = { (base 3).at a todo with mode := .returning })
theorem mq_stops (v : World) (path : ByteArray) (ls : List (List Int)) : Stops (MQ v path ls) := by
  refine ⟨fun s T h => ?_, fun s h => by rw [h.1]; simp, fun s h c => ?_⟩
  · obtain ⟨h1, ⟨a, h2, h3⟩ | ⟨a, todo, h2, h3⟩⟩ := h
    · obtain ⟨lb, cb, q1, q2, q3, q4⟩ := h2.ex
      exact ⟨h1, .inl ⟨a, ⟨lb, cb, q1, q2, q3, Ready.heap q4 rfl⟩, h3⟩⟩
    · exact ⟨h1, .inr ⟨a, todo, ⟨h2.ex⟩, h3⟩⟩
  · obtain ⟨_, ⟨a, _, h3⟩ | ⟨a, todo, _, h3⟩⟩ := h <;> rw [h3] <;> simp [Frame.at, base]
noncomputable def fr3 (c : Code) (x : Array Value) : Frame := (base 3).at { tmps := x ++ Array.replicate 118 undef, defers := [] } [.code c]
theorem main_fin {v : World} (g1 : v.cell? ⟨1, 0, none⟩ = some (.int .u64 11400714785074694791)) (h0 : Rows8 v A n ls) (h1 : Row v B1 n1 c1 (xs1.map (Value.int .u32))) (h2 : Row v B2 n2 c2 (ys1.map (Value.int .u8))) (h3 : Row v B3 n3 c3 (xs2.map (Value.int .u32))) (h4 : Row v B4 n4 c4 (ys2.map (Value.int .u8)))
    {d0 : List Frame} (gd : Gd0 Tryz.prog d0 ⟨fr3 (cutC 14 body3) (args3 path A B1 B2 B3 B4 n cap n1 n2 n3 n4 c1 c2 c3 c4), [c0 Tryz.prog], v⟩) : Fin Tryz.prog (MQ v path ls) ⟨fr3 (cutC 14 body3) (args3 path A B1 B2 B3 B4 n cap n1 n2 n3 n4 c1 c2 c3 c4), [c0 Tryz.prog], v⟩ := by
  refine sim.fin_of_live (sim.gds sim.base d0) (mq_stops _ _ _) gd fun T hT => ?_
  have hg := main_gets (onT v T v.drawn) path A B1 B2 B3 B4 n cap n1 n2 n3 n4 c1 c2 c3 c4 ls xs1 ys1 xs2 ys2 ((cell_heap rfl _).trans g1) (Rows8.heap h0 rfl) (Row.heap h1 rfl) (Row.heap h2 rfl) (Row.heap h3 rfl) (Row.heap h4 rfl) body3 body3_eq (base 3) [] [c0 Tryz.prog]
  obtain ⟨a, w, ⟨hR, k, hs⟩ | ⟨hR, todo, k, hs⟩⟩ := hg
  · exact ⟨k, ⟨(base 3).at a [.code (.refuse "cutcutcutcutcu")], [c0 Tryz.prog], w⟩, hs, rfl, .inl ⟨a, ⟨hR.ex⟩, rfl⟩⟩
  · exact ⟨k, ⟨{ (base 3).at a todo with mode := .returning }, [c0 Tryz.prog], w⟩, hs, rfl, .inr ⟨a, todo, hR, rfl⟩⟩
/-- the starter alone -/
theorem start_at {D : Nat → Dsc} (a : Goroutine) (hD : (D 0).w0 = W) : At Tryz.prog 0 D (fun b => W.heap[b]?) a C0 (solo a W) #[] := by
  refine ⟨fun _ _ => False, fun _ => .work, fun _ => .o 0, #[a], W, none, solo_eq_crowd a W, ⟨rfl, rfl, ?_, ?_, fun b o h => h, ?_, ?_, ?_, ?_, ?_, ?_, ?_, by rw [hD]; exact ⟨rfl, rfl⟩⟩, fun _ => Iff.rfl⟩
  · refine ⟨Go.ConcN.noRace_nil, fun op h => by simp at h, fun op h => by simp at h, fun i x k h => by simp [touchAt, Trace.act?] at h, ?_, ?_, ?_, ?_, fun op h => by simp at h⟩ <;> (intros; omega)
  · refine ⟨?_, ?_, ?_, ?_, ?_⟩ <;> (intros; omega)
  all_goals (intros; omega)
theorem nglob : Tryz.prog.globals.size = 2 := by kernel_rfl
theorem start_ms {D : Nat → Dsc} (h : Inp W A B1 B2 B3 B4 n cap n1 n2 n3 n4 c1 c2 c3 c4 ls xs1 ys1 xs2 ys2) :
    MS Tryz.prog [] 0 D (fun b => W.heap[b]?) (rho0 W) ⟨fr3 (cutC 14 body3) (args3 path A B1 B2 B3 B4 n cap n1 n2 n3 n4 c1 c2 c3 c4), [c0 Tryz.prog], lone0 W⟩ (G (fr3 body3 (args3 path A B1 B2 B3 B4 n cap n1 n2 n3 n4 c1 c2 c3 c4)) []) (fun b => W.heap[b]?) := by
  have lt1 : 1 < W.heap.size := World.block_lt_of_cell? W _ h.g1
  have hrel : ∀ b b', (rho0 W).rel b b' → b < W.heap.size ∧ ∃ c e fr, W.heap[b']? = some (Obj.cells c e fr) := fun b b' r => by
    obtain ⟨rfl, c, e, fr, hc⟩ := r
    exact ⟨(Array.getElem?_eq_some_iff.1 hc).1, c, e, fr, hc⟩
  have hargs : ArR (rho0 W) (args3 path A B1 B2 B3 B4 n cap n1 n2 n3 n4 c1 c2 c3 c4 ++ Array.replicate 118 undef) (args3 path A B1 B2 B3 B4 n cap n1 n2 n3 n4 c1 c2 c3 c4 ++ Array.replicate 118 undef) := by
    refine ArR.append (ArR.self fun v hv => ?_) (ArR.self fun v hv => ?_)
    · simp only [args3, List.mem_toArray, List.mem_cons, List.not_mem_nil, or_false] at hv
      rcases hv with rfl | rfl | rfl | rfl | rfl | rfl
      · exact .string _
      · exact self_slice h.s0 rfl
      · exact self_slice h.s1 rfl
      · exact self_slice h.s2 rfl
      · exact self_slice h.s3 rfl
      · exact self_slice h.s4 rfl
    · rw [Array.mem_replicate] at hv
      rw [hv.2]
      exact sim.undefR _
  refine ⟨⟨_, _, rfl, .base ⟨⟨rfl, rfl, rfl, rfl, rfl, rfl, rfl, hargs⟩, .cut cut3, fun c e => by cases e⟩ (.inr rfl)⟩, fun w hw => ?_, ?_, fun g hg => ?_, fun b b' r => ?_, fun b' ⟨b, o, _⟩ => o.elim, fun b o hb => hb⟩
  · refine (ice_wh hrel (fun _ o => o) (Nat.succ_le_of_lt lt1) (Nat.succ_le_of_lt lt1)).turn ?_ fun b b' r => ?_
    · have : w.heap[1]? = W.heap[1]? := by
        rw [Array.getElem?_eq_getElem lt1]
        exact hw 1 _ (Array.getElem?_eq_getElem lt1)
      rw [Array.getElem?_eq_getElem lt1] at this
      exact Nat.succ_le_of_lt (Array.getElem?_eq_some_iff.1 this).1
    · obtain ⟨_, c, e, fr, hc⟩ := hrel b b' r
      rw [hc]
      exact hw b' _ hc
  · rw [nglob]
    exact Nat.le_refl _
  · rw [nglob] at hg
    match g, hg with
    | 0, _ => exact ⟨rfl, h.g0⟩
    | 1, _ => exact ⟨rfl, isRow_of h.g1⟩
  · obtain ⟨_, c, e, fr, hc⟩ := hrel b b' r
    show (W.heap[b']?).isSome = true
    rw [hc]
    rfl
/-- THE STARTER COMES TO ITS FIRST go STATEMENT, or returns -/
theorem to_go {D : Nat → Dsc} (hD : (D 0).w0 = W) (h : Inp W A B1 B2 B3 B4 n cap n1 n2 n3 n4 c1 c2 c3 c4 ls xs1 ys1 xs2 ys2) :
    sim.Reach Tryz.prog (solo (G (fr3 body3 (args3 path A B1 B2 B3 B4 n cap n1 n2 n3 n4 c1 c2 c3 c4)) []) W) #[] fun m t => ∃ ρ s a' F1, MQ (lone0 W) path ls s ∧ MS Tryz.prog [] 0 D (fun b => W.heap[b]?) ρ s a' F1 ∧ At Tryz.prog 0 D F1 a' C0 m t := by
  have hms := start_ms (path := path) (D := D) h
  obtain ⟨l1, l2, l3, l4, l5, l6⟩ := h.lone
  obtain ⟨fr', cs', e, st⟩ := hms.st
  refine sim.main_sim sim.base nglob (main_fin l1 l2 l3 l4 l5 l6 (d0 := []) ?_) (ρ := rho0 W) rfl hms (start_at _ hD)
  have hwh := hms.wh W fun b o h => h
  exact ⟨rho0 W, onT W (lone0 W).tape (lone0 W).drawn, _, _, st, ⟨hwh.rng, hwh.g0, hwh.own, hwh.only, fun _ _ => rfl⟩, hms.hG, hms.hg⟩
end
end Go.Proofs.YtgjhmbbbkkidlaaGreatDoor.hash
