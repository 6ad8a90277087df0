/-
  The starter's end.
  Conditions: none.
-/
import Derived.Test.YtgjhmbbbkkidlaaGreatDoorXl
import Derived.Test.YtgjhmbbbkkidlaaGreatDoorXn
namespace Go.Proofs.YtgjhmbbbkkidlaaGreatDoor.hash
open Go.ChangeShapes Go.WideShapes Go.ChangeAt Go.RowKit
open Go.Conc
open Go.Proofs.YtgjhmbbbkkidlaaGreatDoor.sim (Sit Stops MR mr_pure View Sees Dsc Cls At Live Agrees Fin Gd0 onT Rn WH WR ArR VR MS FkR FrR TodoR Cut StR c0 OkC okCB okC_of ice ice_cell ice_wh ice_size rowOf row_cell pick pick_VR pick_eq Ends)
/-- what the run leaves -/
def PostZ (W : World) (v : Value) (w' : World) : Prop := v = .bool true ∧ w'.os = W.os ∧ w'.output = W.output ∧ ∀ (b : Nat) (o : Obj), W.heap[b]? = some o → w'.heap[b]? = some o
def GoalZ (W : World) (m : Machine) (t : Trace) : Prop := sim.Ends Tryz.prog m t (Go.Conc.Good Tryz.prog (PostZ W))
def Keep (W : World) (F : View) : Prop := ∀ (b : Nat) (o : Obj), W.heap[b]? = some o → F b = some o
section
variable {W : World} {J : Nat} {D : Nat → Dsc} {F : View} {cl0 : Nat → Cls} {T : Array Value}
theorem end_mr (hD : (D 0).w0 = W) (hgot : ∀ k, 1 ≤ k → k ≤ J → cl0 k = .got) (hK : Keep W F) (h12 : T[12]? = some (.bool true)) (todo : List Item) : M J D F (G { (base 3).at ⟨T, []⟩ todo with mode := .returning } []) cl0 (GoalZ W) := by
  intro m t hat
  refine .now (sim.main_end sim.base (a := G { (base 3).at ⟨T, []⟩ todo with mode := .returning } []) rfl hgot (fun w hw hos hout => ⟨.bool true, #[], ?_, fun e he => by simp at he, rfl, ?_, ?_, fun b o hb => hw b o (hK b o hb)⟩) hat)
  · have e : T.getD 12 undef = .bool true := getD_of h12
    simp [G, stepG, unwind, doReturn, results, Frame.at, base, Tryz.func3, Tryz.f3, seen, GStep.after, h12]
  · rw [hos, hD]
  · rw [hout, hD]
/-- the relation of a view's rows with themselves -/
def rhoF (F : View) : Rn where
  rel := fun b b' => b' = b ∧ ∃ c e fr, F b = some (Obj.cells c e fr)
  own := fun _ => False
  g0 := 2
  fn := fun a b c h1 h2 => h1.1.trans h2.1.symm
  inj := fun a b c h1 h2 => h1.1.symm.trans h2.1
  low := fun a b h _ => h.1
theorem base_of {ρ : Rn} {fr fr' : Frame} {cs' : List Frame} (st : StR Tryz.prog [] ρ fr [c0 Tryz.prog] fr' cs') : cs' = [] ∧ FkR Tryz.prog ρ fr fr' := by
  generalize hl : [c0 Tryz.prog] = l at st
  cases st with
  | base fk _ => exact ⟨rfl, fk⟩
  | cons fk _ _ st2 =>
    injection hl with e1 e2
    subst e2
    exact (st2.ne rfl).elim
theorem cut_frame {a : Act} {s : String} {ρ : Rn} {fr' : Frame} (fk : FkR Tryz.prog ρ ((base 3).at a [.code (.refuse s)]) fr') : fr' = (base 3).at ⟨fr'.tmps, []⟩ [.code (sim.cutTail Tryz.prog s)] ∧ ArR ρ a.tmps fr'.tmps := by
  have htodo : fr'.todo = [.code (sim.cutTail Tryz.prog s)] := by
    have h : TodoR Tryz.prog [.code (.refuse s)] fr'.todo := fk.todo
    generalize fr'.todo = td at h
    cases h with
    | cut c => cases c; rfl
    | cons hk _ => exact hk.elim
  refine ⟨?_, fk.rel.tmps⟩
  have r1 := fk.rel.fn
  have r2 := fk.rel.mode
  have r3 := fk.rel.kind
  have r4 := fk.rel.round'
  have r5 := fk.rel.defers'
  cases fr'
  simp only [Frame.at, base] at *
  subst r1 r2 r3 r4 r5 htodo
  rfl
theorem sp19 : sim.spine 19 body3 = .seq reg23 (sim.spine 20 body3) := rfl
theorem sp20 : sim.spine 20 body3 = .ret := rfl
theorem cutTail20 : sim.cutTail Tryz.prog "cutcutcutcutcutcutcu" = sim.spine 20 body3 := by
  unfold sim.cutTail
  rw [Tryz.func3]
  rfl
theorem cut23 : Cut Tryz.prog (.seq reg23 (.refuse "cutcutcutcutcutcutcu")) (sim.spine 19 body3) := by
  rw [sp19, ← cutTail20]
  exact .seq (okC_of (by kernel_rfl)) (.here _)
/-- where the last walk ends -/
def LQ (s : Sit) : Prop := s.cs = [c0 Tryz.prog] ∧ ∃ a, Fine a s.v ∧ s.fr = (base 3).at a [.code (.refuse "cutcutcutcutcutcutcu")]
theorem lq_stops : Stops LQ := by
  refine ⟨fun s T h => h.elim fun h1 ⟨a, h2, h3⟩ => ⟨h1, a, ⟨h2.ex⟩, h3⟩, fun s h => by rw [h.1]; simp, fun s h c => ?_⟩
  obtain ⟨_, a, _, h3⟩ := h
  rw [h3]
  simp [Frame.at, base]
/-- a row of bytes that the view shows -/
def Hsh (F : View) (b : Nat) (l : List Int) : Prop := ∃ c e fr, F b = some (Obj.cells c e fr) ∧ ∀ i, i < l.length → c[i]? = some (byte (l.getD i 0))
theorem bytes_heap {w w2 : World} (h : w2.heap = w.heap) {b o : Nat} {l : List Int} (g : Bytes w b o l) : Bytes w2 b o l := fun i hi => (cell_heap h _).trans (g i hi)
theorem last_mr (hD : (D 0).w0 = W) (hgot : ∀ k, 1 ≤ k → k ≤ J → cl0 k = .got) (hK : Keep W F) (hT : T.size = 124) {b1 b2 b3 c1 c2 c3 : Nat} {l : List Int} (hl : l.length = 8) (h15 : T[15]? = some (.slice (some ⟨b1, 0, none⟩) 8 c1)) (h16 : T[16]? = some (.slice (some ⟨b2, 0, none⟩) 8 c2)) (h17 : T[17]? = some (.slice (some ⟨b3, 0, none⟩) 8 c3))
    (q1 : Hsh F b1 l) (q2 : Hsh F b2 l) (q3 : Hsh F b3 l) (g0 : ∃ c e fr, F 0 = some (Obj.cells c e fr)) (g1 : ∃ c e fr, F 1 = some (Obj.cells c e fr)) : M J D F (G ((base 3).at ⟨T, []⟩ [.code (sim.spine 19 body3)]) []) cl0 (GoalZ W) := by
  intro m t hat
  obtain ⟨w, hw⟩ : ∃ w, Sees F w := by
    obtain ⟨O, cl, rk, gs, w, sl, _, hc, _⟩ := hat
    exact ⟨w, hc.sees⟩
  have hrel : ∀ b b', (rhoF F).rel b b' → b < w.heap.size ∧ ∃ c e fr, w.heap[b']? = some (Obj.cells c e fr) := fun b b' r => by
    obtain ⟨rfl, c, e, fr, hc⟩ := r
    exact ⟨(Array.getElem?_eq_some_iff.1 (hw _ _ hc)).1, c, e, fr, hw _ _ hc⟩
  have lt2 : ∀ w, Sees F w → 2 ≤ w.heap.size := fun w hw => by
    obtain ⟨c, e, fr, hc⟩ := g1
    exact Nat.succ_le_of_lt (Array.getElem?_eq_some_iff.1 (hw 1 _ hc)).1
  have hwh : WH (rhoF F) (ice (rhoF F) w w fun b => (rowOf w b).size) w := ice_wh hrel (fun _ o => o) (lt2 w hw) (lt2 w hw)
  generalize hv : ice (rhoF F) w w (fun b => (rowOf w b).size) = v at *
  have hby : ∀ b, Hsh F b l → Bytes v b 0 l := fun b ⟨c, e, fr, hc, hx⟩ i hi => by
    have h1 : w.cell? ⟨b, 0 + i, none⟩ = some (byte (l.getD i 0)) := by rw [Nat.zero_add]; exact sees_cell hw hc (hx i hi)
    rw [← hv]
    exact ice_cell (b' := b) ⟨rfl, c, e, fr, hc⟩ (row_cell h1).2.1 h1 h1 (.int _ _)
  have self : ∀ b c, Hsh F b l → VR (rhoF F) (.slice (some ⟨b, 0, none⟩) 8 c) (.slice (some ⟨b, 0, none⟩) 8 c) := fun b c ⟨c1, e, fr, hc, _⟩ => .slice _ _ fun _ => ⟨⟨rfl, c1, e, fr, hc⟩, rfl, rfl⟩
  have hTl : ∀ i x, T[i]? = some x → VR (rhoF F) x x → (T.map fun x => pick (rhoF F) x x)[i]? = some x := fun i x hx hs => by
    rw [Array.getElem?_map, hx]
    exact congrArg some (pick_eq hs)
  have harr : ArR (rhoF F) (T.map fun x => pick (rhoF F) x x) T := ⟨by simp, fun i x x' h1 h2 => by
    rw [Array.getElem?_map, h2] at h1
    cases h1
    exact pick_VR _ _ _⟩
  have st : StR Tryz.prog [] (rhoF F) ((base 3).at ⟨T.map fun x => pick (rhoF F) x x, []⟩ [.code (.seq reg23 (.refuse "cutcutcutcutcutcutcu"))]) [c0 Tryz.prog] ((base 3).at ⟨T, []⟩ [.code (sim.spine 19 body3)]) [] :=
    .base ⟨⟨rfl, rfl, rfl, rfl, rfl, rfl, rfl, harr⟩, .cut cut23, fun c e => by cases e⟩ (.inr rfl)
  have turn : ∀ w2, Sees F w2 → WH (rhoF F) v w2 := fun w2 hw2 => hwh.turn (lt2 w2 hw2) fun b b' r => by
    obtain ⟨rfl, c, e, fr, hc⟩ := r
    rw [hw _ _ hc, hw2 _ _ hc]
  have hms : MS Tryz.prog [] J D F (rhoF F) ⟨(base 3).at ⟨T.map fun x => pick (rhoF F) x x, []⟩ [.code (.seq reg23 (.refuse "cutcutcutcutcutcutcu"))], [c0 Tryz.prog], v⟩ (G ((base 3).at ⟨T, []⟩ [.code (sim.spine 19 body3)]) []) F := by
    refine ⟨⟨_, _, rfl, st⟩, turn, by rw [nglob]; exact Nat.le_refl _, fun g hg => ?_, fun b b' r => ?_, fun b' ⟨b, o, _⟩ => o.elim, fun b o hb => hb⟩
    · rw [nglob] at hg
      match g, hg with
      | 0, _ => exact ⟨rfl, g0⟩
      | 1, _ => exact ⟨rfl, g1⟩
    · obtain ⟨rfl, c, e, fr, hc⟩ := r
      rw [hc]
      rfl
  have hfin : Fin Tryz.prog LQ ⟨(base 3).at ⟨T.map fun x => pick (rhoF F) x x, []⟩ [.code (.seq reg23 (.refuse "cutcutcutcutcutcutcu"))], [c0 Tryz.prog], v⟩ := by
    refine sim.fin_of_live (sim.gds sim.base []) lq_stops ⟨rhoF F, onT w v.tape v.drawn, _, _, st, ⟨hwh.rng, hwh.g0, hwh.own, hwh.only, fun _ _ => rfl⟩, hms.hG, hms.hg⟩ fun T0 _ => ?_
    have hg := last_gets (T.map fun x => pick (rhoF F) x x) (by simp [hT]) b1 b2 b3 c1 c2 c3 (hTl _ _ h15 (self _ _ q1)) (hTl _ _ h16 (self _ _ q2)) (hTl _ _ h17 (self _ _ q3)) l hl (onT v T0 v.drawn) (bytes_heap rfl (hby _ q1)) (bytes_heap rfl (hby _ q2)) (bytes_heap rfl (hby _ q3)) (base 3) [] [c0 Tryz.prog]
    obtain ⟨a, w1, ⟨hR, k, hs⟩ | ⟨hR, _⟩⟩ := hg
    · exact ⟨k, ⟨(base 3).at a [.code (.refuse "cutcutcutcutcutcutcu")], [c0 Tryz.prog], w1⟩, hs, rfl, a, hR, rfl⟩
    · exact hR.elim
  refine (sim.main_sim sim.base nglob hfin rfl hms hat).trans fun m' t' hm' => ?_
  obtain ⟨ρ, s, a', F1, ⟨hcs, a, hfine, hfr⟩, ms, hat'⟩ := hm'
  obtain ⟨fr', cs', rfl, st⟩ := ms.st
  rw [hcs, hfr] at st
  obtain ⟨rfl, fk⟩ := base_of st
  obtain ⟨efr, har⟩ := cut_frame fk
  rw [cutTail20, sp20] at efr
  obtain ⟨x, hx, hvr⟩ := har.get hfine.ex.1
  cases hvr
  rw [efr] at hat'
  generalize fr'.tmps = T2 at hat' hx
  exact mr_pure sim.base rfl (fun w => stepG_ret') (end_mr hD hgot (fun b o hb => ms.keep b o (hK b o hb)) hx _) m' t' hat'
end
end Go.Proofs.YtgjhmbbbkkidlaaGreatDoor.hash
/-
  The starter from its first go statement to its end.
  Conditions: none.
-/
namespace Go.Proofs.YtgjhmbbbkkidlaaGreatDoor.hash
open Go.ChangeShapes Go.WideShapes Go.ChangeAt Go.RowKit
open Go.Conc
open Go.ConcN (upd upd_same upd_ne)
open Go.Proofs.YtgjhmbbbkkidlaaGreatDoor.sim (MR mr_pure View Sees Dsc Cls At Rn ext ext_eq ext_ne less less_eq less_ne C0 Held main_recv main_recv2 Fresh)
section
variable {W : World} {J : Nat} {D : Nat → Dsc} {F : View} {cl0 : Nat → Cls}
/-- what comes over a worker's channel -/
def TT1 (J : Nat) (D : Nat → Dsc) (F : View) (n : Nat) (H : Array Value) (val : Value) (F2 : View) : Prop := ∃ b cp c e fr tm, (∀ i, i < 8 → ∃ v, c[i]? = some v ∧ H[i]? = some v) ∧ F b = none ∧ (∀ j, 1 ≤ j → j ≤ J → b ≠ (D j).c) ∧ val = .slice (some ⟨b, 0, none⟩) 8 cp ∧ F2 = ext (ext F n (.chan 1 #[] false 1 1 tm)) b (.cells c e fr)
theorem recv_first {k n : Nat} (k1 : 1 ≤ k) (kJ : k ≤ J) (hk : cl0 k ≠ .got) (hn : (D k).c = n) : RecvOk J D F cl0 (upd cl0 k .got) n (TT1 J D F n (D k).H) := by
  subst hn
  intro a z Goal ha hs g m t hat
  refine (main_recv sim.base k1 kJ hk ha hs hat).trans fun m' t' h => ?_
  obtain ⟨b, cp, c, e, fr, tm, h1, h2, h3, h4⟩ := h
  exact g _ _ ⟨b, cp, c, e, fr, tm, h1, h2, h3, rfl, rfl⟩ m' t' h4
def TT2 (F : View) (n s r : Nat) (tm : Bool) (v0 : Value) (val : Value) (F2 : View) : Prop := val = v0 ∧ F2 = ext F n (.chan 1 #[] false s (r + 1) tm)
theorem recv_again {n s r : Nat} {tm : Bool} {v0 : Value} (hn : F n = some (.chan 1 #[v0] false s r tm)) : RecvOk J D F cl0 cl0 n (TT2 F n s r tm v0) := by
  intro a z Goal ha hs g m t hat
  exact (main_recv2 sim.base ha hn hs hat).trans fun m' t' h => g _ _ ⟨rfl, rfl⟩ m' t' h
theorem hsh_of {path : ByteArray} {ls : List (List Int)} {b : Nat} {c : Array Value} {e : TypeId} {fr : Nat × Nat} {H : Array Value} (hH : H = hashOf path ls) (hb : F b = some (.cells c e fr)) (h : ∀ i, i < 8 → ∃ v, c[i]? = some v ∧ H[i]? = some v) : Hsh F b (sumB (fin path ls)) := by
  refine ⟨c, e, fr, hb, fun i hi => ?_⟩
  have h8 : (sumB (fin path ls)).length = 8 := rfl
  obtain ⟨v, h1, h2⟩ := h i (by rw [← h8]; exact hi)
  rw [h1]
  rw [hH] at h2
  unfold hashOf at h2
  rw [List.getElem?_toArray, List.getElem?_map, List.getElem?_eq_getElem hi] at h2
  cases h2
  simp [byte, List.getD, List.getElem?_eq_getElem hi]
/-- what each view of the starter's shows -/
structure Vw (W : World) (F : View) (lb cb : Nat) (lc : Array Value) (lt : TypeId) (lf : Nat × Nat) (cc : Array Value) : Prop where
  keep : Keep W F
  l : F lb = some (.cells lc lt lf)
  c : F cb = some (.cells cc 146 (0, 0))
variable {lb cb x : Nat} {lc cc : Array Value} {lt : TypeId} {lf : Nat × Nat} {o : Obj}
theorem Vw.ext (h : Vw W F lb cb lc lt lf cc) (hx : W.heap[x]? = none) (hl : x ≠ lb) (hc : x ≠ cb) : Vw W (ext F x o) lb cb lc lt lf cc := by
  refine ⟨fun b o' hb => ?_, by rw [ext_ne _ _ _ (Ne.symm hl)]; exact h.l, by rw [ext_ne _ _ _ (Ne.symm hc)]; exact h.c⟩
  rw [ext_ne _ _ _ (fun e => by rw [e, hx] at hb; cases hb)]
  exact h.keep b o' hb
theorem Vw.less (h : Vw W F lb cb lc lt lf cc) (hx : W.heap[x]? = none) (hl : x ≠ lb) (hc : x ≠ cb) : Vw W (less F x) lb cb lc lt lf cc := by
  refine ⟨fun b o' hb => ?_, by rw [less_ne _ (Ne.symm hl)]; exact h.l, by rw [less_ne _ (Ne.symm hc)]; exact h.c⟩
  rw [less_ne _ (fun e => by rw [e, hx] at hb; cases hb)]
  exact h.keep b o' hb
theorem notW (hK : Keep W F) (h : F x = none) : W.heap[x]? = none := by
  cases e : W.heap[x]? with
  | none => rfl
  | some o => rw [hK x o e] at h; cases h
theorem ne_of {b : Nat} (h : F x = none) (g : F b = some o) : x ≠ b := fun e => by rw [e, g] at h; cases h
end
noncomputable def regK (k : Nat) : Code := match tailC k (Tryz.f3.body.getD .skip) with | .seq x _ => x | c => c
theorem sp14 : sim.spine 14 body3 = .seq (regK 14) (sim.spine 15 body3) := rfl
theorem sp15 : sim.spine 15 body3 = .seq (regK 15) (sim.spine 16 body3) := rfl
theorem sp16 : sim.spine 16 body3 = .seq (regK 16) (sim.spine 17 body3) := rfl
theorem sp17 : sim.spine 17 body3 = .seq (regK 17) (sim.spine 18 body3) := rfl
theorem sp18 : sim.spine 18 body3 = .seq (regK 18) (sim.spine 19 body3) := rfl
section
variable {W : World} {D : Nat → Dsc} {T : Array Value} {ρ : Rn} {v : World} {path : ByteArray} {ls : List (List Int)} {lb cb lb' cb' : Nat} {cc' : Array Value} {F1 : View}
set_option maxRecDepth 100000 in
set_option maxHeartbeats 4000000 in
theorem mid_mr (K : Kw ρ v path ls lb cb lb' cb' cc' F1) (hD : (D 0).w0 = W) (hK : Keep W F1) (hcW : W.heap[cb']? = none) (hlc : lb' ≠ cb') (hT : T.size = 124) (h14 : T[14]? = some (.pointer (some ⟨lb', 0, none⟩)))
    (g0 : ∃ c e fr, W.heap[0]? = some (Obj.cells c e fr)) (g1 : ∃ c e fr, W.heap[1]? = some (Obj.cells c e fr)) : M 0 D F1 (G ((base 3).at ⟨T, []⟩ [.code (sim.spine 14 body3)]) []) C0 (GoalZ W) := by
  obtain ⟨lc, lt, lf, hL, h17⟩ := K.lk
  have V1 : Vw W F1 lb' cb' lc lt lf cc' := ⟨hK, hL, K.cells⟩
  rw [sp14]
  refine mr_pure sim.base rfl (fun w => stepG_seq) ?_
  simp only [regK, Tryz.f3, Option.getD_some, tailC]
  refine gen_reg (ci := 0) (R := fun n _ d => d.c = n ∧ d.H = hashOf path ls ∧ ¬ d.RO ⟨cb', 30, none⟩) hT h14 rfl rfl rfl rfl rfl rfl rfl rfl rfl (by decide) (by decide) (by decide) V1.l h17 V1.c K.size (fun k k1 k0 => absurd k1 (by omega)) (fun n m hn hm hnm hnc hmc _ w hw => ?_) fun n1 m1 d1 T2 hn1 hm1 hnm1 hnc1 hmc1 _ hR1 hT2 hlow2 => ?_
  · have later : Later F1 cb' cc' (V3 F1 cb' 0 n m cc') (cc'.setIfInBounds (0 * 22 + 8) (.func (.func 17) #[] #[.pointer (some ⟨m, 0, none⟩)])) := by
      refine ⟨fun b o hb hne => ?_, ext_eq _ _ _, by rw [Array.size_setIfInBounds]; exact K.size, fun i h8 _ => Array.getElem?_setIfInBounds_ne (by omega)⟩
      unfold V3
      rw [ext_ne _ _ _ hne, ext_ne _ _ _ (Ne.symm (ne_of hm hb)), ext_ne _ _ _ (Ne.symm (ne_of hn hb))]
      exact hb
    obtain ⟨d, s, q1, q2, q3, q4⟩ := fresh_of K later (n := n) (tm := false) (by unfold V3; rw [ext_ne _ _ _ hnc, ext_ne _ _ _ hnm, ext_eq]) (k := 0) (by omega) hw
    exact ⟨d, s, q1, q2, q3, q4 rfl⟩
  obtain ⟨hc1, hH1, hro1⟩ := hR1
  rw [hc1]
  have n1l : n1 ≠ lb' := ne_of hn1 hL
  have m1l : m1 ≠ lb' := ne_of hm1 hL
  have V2 : Vw W (less (V3 F1 cb' 0 n1 m1 cc') n1) lb' cb' lc lt lf (cc'.setIfInBounds (0 * 22 + 8) (.func (.func 17) #[] #[.pointer (some ⟨m1, 0, none⟩)])) := by
    have h1 := (V1.ext (x := n1) (o := .chan 1 #[] false 0 0 false) (notW hK hn1) n1l hnc1).ext (x := m1) (o := .cells #[.chan (some n1)] 149 (0, 0)) (notW hK hm1) m1l hmc1
    have h2 : Vw W (V3 F1 cb' 0 n1 m1 cc') lb' cb' lc lt lf (cc'.setIfInBounds (0 * 22 + 8) (.func (.func 17) #[] #[.pointer (some ⟨m1, 0, none⟩)])) := by
      refine ⟨fun b o hb => ?_, ?_, ext_eq _ _ _⟩
      · unfold V3
        rw [ext_ne _ _ _ (fun e => by rw [e, hcW] at hb; cases hb)]
        exact h1.keep b o hb
      · unfold V3
        rw [ext_ne _ _ _ hlc]
        exact h1.l
    exact h2.less (notW hK hn1) n1l hnc1
  have M2 : less (V3 F1 cb' 0 n1 m1 cc') n1 m1 = some (.cells #[.chan (some n1)] 149 (0, 0)) := by
    rw [less_ne _ (Ne.symm hnm1)]
    unfold V3
    rw [ext_ne _ _ _ hmc1, ext_eq]
  have K2 : ∀ b o, F1 b = some o → b ≠ cb' → less (V3 F1 cb' 0 n1 m1 cc') n1 b = some o := fun b o hb hne => by
    rw [less_ne _ (Ne.symm (ne_of hn1 hb))]
    unfold V3
    rw [ext_ne _ _ _ hne, ext_ne _ _ _ (Ne.symm (ne_of hm1 hb)), ext_ne _ _ _ (Ne.symm (ne_of hn1 hb))]
    exact hb
  have N2 : less (V3 F1 cb' 0 n1 m1 cc') n1 n1 = none := less_eq _ _
  generalize less (V3 F1 cb' 0 n1 m1 cc') n1 = F2 at *
  have hD1 : upd D (0 + 1) d1 1 = d1 := upd_same _ _ _
  have hD10 : (upd D (0 + 1) d1 0).w0 = W := by rw [upd_ne _ _ (by omega)]; exact hD
  generalize upd D (0 + 1) d1 = D1 at *
  have hsz1 : (cc'.setIfInBounds (0 * 22 + 8) (Value.func (.func 17) #[] #[.pointer (some ⟨m1, 0, none⟩)])).size = 44 := by rw [Array.size_setIfInBounds]; exact K.size
  have hs1 : ∀ i, i ≠ 8 → (cc'.setIfInBounds (0 * 22 + 8) (Value.func (.func 17) #[] #[.pointer (some ⟨m1, 0, none⟩)]))[i]? = cc'[i]? := fun i h8 => Array.getElem?_setIfInBounds_ne (by omega)
  have h81 : (cc'.setIfInBounds (0 * 22 + 8) (Value.func (.func 17) #[] #[.pointer (some ⟨m1, 0, none⟩)]))[8]? = some (.func (.func 17) #[] #[.pointer (some ⟨m1, 0, none⟩)]) := Array.getElem?_setIfInBounds_self_of_lt (by rw [K.size]; omega)
  generalize cc'.setIfInBounds (0 * 22 + 8) (Value.func (.func 17) #[] #[.pointer (some ⟨m1, 0, none⟩)]) = cc1 at *
  rw [sp15]
  refine mr_pure sim.base rfl (fun w => stepG_seq) ?_
  simp only [regK, Tryz.f3, Option.getD_some, tailC]
  have h142 := (hlow2 14 (by omega)).trans h14
  refine gen_reg (ci := 1) (R := fun n _ d => d.c = n ∧ d.H = hashOf path ls) hT2 h142 rfl rfl rfl rfl rfl rfl rfl rfl rfl (by decide) (by decide) (by decide) V2.l h17 V2.c hsz1 (fun k k1 kJ h => ?_) (fun n m hn hm hnm hnc hmc _ w hw => ?_) fun n2 m2 d2 T3 hn2 hm2 hnm2 hnc2 hmc2 hcm2 hR2 hT3 hlow3 => ?_
  · obtain rfl : k = 1 := by omega
    rw [hD1] at h
    exact hro1 h.1
  · have later : Later F1 cb' cc' (V3 F2 cb' 1 n m cc1) (cc1.setIfInBounds (1 * 22 + 8) (.func (.func 17) #[] #[.pointer (some ⟨m, 0, none⟩)])) := by
      refine ⟨fun b o hb hne => ?_, ext_eq _ _ _, by rw [Array.size_setIfInBounds]; exact hsz1, fun i h8 h30 => (Array.getElem?_setIfInBounds_ne (by omega)).trans (hs1 i h8)⟩
      have hb2 := K2 b o hb hne
      unfold V3
      rw [ext_ne _ _ _ hne, ext_ne _ _ _ (Ne.symm (ne_of hm hb2)), ext_ne _ _ _ (Ne.symm (ne_of hn hb2))]
      exact hb2
    obtain ⟨d, s, q1, q2, q3, _⟩ := fresh_of K later (n := n) (tm := false) (by unfold V3; rw [ext_ne _ _ _ hnc, ext_ne _ _ _ hnm, ext_eq]) (k := 1) (by omega) hw
    exact ⟨d, s, q1, q2, q3⟩
  obtain ⟨hc2, hH2⟩ := hR2
  have n1m2 : n1 ≠ m2 := by have := hcm2 1 (by omega) (by omega); rw [hD1, hc1] at this; exact this
  rw [hc2]
  have n2l : n2 ≠ lb' := ne_of hn2 V2.l
  have m2l : m2 ≠ lb' := ne_of hm2 V2.l
  have V3' : Vw W (less (V3 F2 cb' 1 n2 m2 cc1) n2) lb' cb' lc lt lf (cc1.setIfInBounds (1 * 22 + 8) (.func (.func 17) #[] #[.pointer (some ⟨m2, 0, none⟩)])) := by
    have h1 := (V2.ext (x := n2) (o := .chan 1 #[] false 0 0 false) (notW V2.keep hn2) n2l hnc2).ext (x := m2) (o := .cells #[.chan (some n2)] 149 (0, 0)) (notW V2.keep hm2) m2l hmc2
    have h2 : Vw W (V3 F2 cb' 1 n2 m2 cc1) lb' cb' lc lt lf (cc1.setIfInBounds (1 * 22 + 8) (.func (.func 17) #[] #[.pointer (some ⟨m2, 0, none⟩)])) := by
      refine ⟨fun b o hb => ?_, ?_, ext_eq _ _ _⟩
      · unfold V3
        rw [ext_ne _ _ _ (fun e => by rw [e, hcW] at hb; cases hb)]
        exact h1.keep b o hb
      · unfold V3
        rw [ext_ne _ _ _ hlc]
        exact h1.l
    exact h2.less (notW V2.keep hn2) n2l hnc2
  have m1n2 : m1 ≠ n2 := Ne.symm (ne_of hn2 M2)
  have m1m2 : m1 ≠ m2 := Ne.symm (ne_of hm2 M2)
  have M31 : less (V3 F2 cb' 1 n2 m2 cc1) n2 m1 = some (.cells #[.chan (some n1)] 149 (0, 0)) := by
    rw [less_ne _ m1n2]
    unfold V3
    rw [ext_ne _ _ _ hmc1, ext_ne _ _ _ m1m2, ext_ne _ _ _ m1n2]
    exact M2
  have M32 : less (V3 F2 cb' 1 n2 m2 cc1) n2 m2 = some (.cells #[.chan (some n2)] 149 (0, 0)) := by
    rw [less_ne _ (Ne.symm hnm2)]
    unfold V3
    rw [ext_ne _ _ _ hmc2, ext_eq]
  have W1 : W.heap[n1]? = none := notW hK hn1
  have W2 : W.heap[n2]? = none := notW V2.keep hn2
  generalize less (V3 F2 cb' 1 n2 m2 cc1) n2 = F3 at *
  have hDk1 : upd D1 (0 + 1 + 1) d2 1 = d1 := by rw [upd_ne _ _ (by omega)]; exact hD1
  have hDk2 : upd D1 (0 + 1 + 1) d2 2 = d2 := upd_same _ _ _
  have hDk0 : (upd D1 (0 + 1 + 1) d2 0).w0 = W := by rw [upd_ne _ _ (by omega)]; exact hD10
  generalize upd D1 (0 + 1 + 1) d2 = D2 at *
  have h82 : (cc1.setIfInBounds (1 * 22 + 8) (Value.func (.func 17) #[] #[.pointer (some ⟨m2, 0, none⟩)]))[0 * 22 + 8]? = some (.func (.func 17) #[] #[.pointer (some ⟨m1, 0, none⟩)]) := (Array.getElem?_setIfInBounds_ne (by omega)).trans h81
  have h302 : (cc1.setIfInBounds (1 * 22 + 8) (Value.func (.func 17) #[] #[.pointer (some ⟨m2, 0, none⟩)]))[1 * 22 + 8]? = some (.func (.func 17) #[] #[.pointer (some ⟨m2, 0, none⟩)]) := Array.getElem?_setIfInBounds_self_of_lt (by rw [hsz1]; omega)
  generalize cc1.setIfInBounds (1 * 22 + 8) (Value.func (.func 17) #[] #[.pointer (some ⟨m2, 0, none⟩)]) = cc2 at *
  rw [sp16]
  refine mr_pure sim.base rfl (fun w => stepG_seq) ?_
  simp only [regK, Tryz.f3, Option.getD_some, tailC]
  have h143 := (hlow3 14 (by omega)).trans h142
  clear K hK V1 V2 K2 hro1 hL
  intro m0 t0 hat0
  have hnn : n1 ≠ n2 := by
    obtain ⟨O, cl, rk, gs, w, sl, _, hc, _⟩ := id hat0
    have := hc.cc 1 2 (by omega) (by omega) (by omega) (by omega) (by omega)
    rw [hDk1, hDk2, hc1, hc2] at this
    exact this
  revert m0 t0
  change MR Tryz.prog 2 D2 F3 _ C0 (GoalZ W)
  refine wait_reg (ci := 0) (n := n1) (m := m1) (TT := TT1 2 D2 F3 n1 (D2 1).H) (cl1 := upd C0 1 .got) hT3 h143 rfl rfl rfl rfl rfl rfl rfl rfl rfl rfl rfl rfl rfl (by decide) (by decide) (by decide) (by decide) V3'.l h17 V3'.c h82 M31 (recv_first (k := 1) (by omega) (by omega) (by simp [C0]) (by rw [hDk1]; exact hc1)) (fun val F' h => ?_) fun val1 F4' s1 r1 t1 T4 hTT hch hT4 h15 hlow4 => ?_
  · obtain ⟨b, cp, c, e, fr, tm, _, hb, hne, _, rfl⟩ := h
    have hb1 : b ≠ n1 := by have := hne 1 (by omega) (by omega); rw [hDk1, hc1] at this; exact this
    refine ⟨?_, 1, 1, tm, by rw [ext_ne _ _ _ (Ne.symm hb1), ext_eq]⟩
    rw [ext_ne _ _ _ (Ne.symm (ne_of hb M31)), ext_ne _ _ _ (Ne.symm hnm1)]
    exact M31
  obtain ⟨b1, cp1, q1, e1, f1, tm1, hh1, hb1, hne1, rfl, rfl⟩ := hTT
  have b1n1 : b1 ≠ n1 := by have := hne1 1 (by omega) (by omega); rw [hDk1, hc1] at this; exact this
  have b1n2 : b1 ≠ n2 := by have := hne1 2 (by omega) (by omega); rw [hDk2, hc2] at this; exact this
  have Wb1 : W.heap[b1]? = none := notW V3'.keep hb1
  have V4 := ((V3'.ext (x := n1) (o := .chan 1 #[] false 1 1 tm1) W1 n1l hnc1).ext (x := b1) (o := .cells q1 e1 f1) Wb1 (ne_of hb1 V3'.l) (ne_of hb1 V3'.c)).ext (x := n1) (o := .chan 1 #[.slice (some ⟨b1, 0, none⟩) 8 cp1] false (s1 + 1) r1 t1) W1 n1l hnc1
  have M42 : ext (ext (ext F3 n1 (.chan 1 #[] false 1 1 tm1)) b1 (.cells q1 e1 f1)) n1 (.chan 1 #[.slice (some ⟨b1, 0, none⟩) 8 cp1] false (s1 + 1) r1 t1) m2 = some (.cells #[.chan (some n2)] 149 (0, 0)) := by
    rw [ext_ne _ _ _ (Ne.symm n1m2), ext_ne _ _ _ (Ne.symm (ne_of hb1 M32)), ext_ne _ _ _ (Ne.symm n1m2)]
    exact M32
  have B4 : ext (ext (ext F3 n1 (.chan 1 #[] false 1 1 tm1)) b1 (.cells q1 e1 f1)) n1 (.chan 1 #[.slice (some ⟨b1, 0, none⟩) 8 cp1] false (s1 + 1) r1 t1) b1 = some (.cells q1 e1 f1) := by
    rw [ext_ne _ _ _ b1n1, ext_eq]
  generalize ext (ext (ext F3 n1 (.chan 1 #[] false 1 1 tm1)) b1 (.cells q1 e1 f1)) n1 (.chan 1 #[.slice (some ⟨b1, 0, none⟩) 8 cp1] false (s1 + 1) r1 t1) = F4 at *
  rw [sp17]
  refine mr_pure sim.base rfl (fun w => stepG_seq) ?_
  simp only [regK, Tryz.f3, Option.getD_some, tailC]
  have h144 := (hlow4 14 (by omega) (by omega)).trans h143
  refine wait_reg (ci := 1) (n := n2) (m := m2) (TT := TT1 2 D2 F4 n2 (D2 2).H) (cl1 := upd (upd C0 1 .got) 2 .got) hT4 h144 rfl rfl rfl rfl rfl rfl rfl rfl rfl rfl rfl rfl rfl (by decide) (by decide) (by decide) (by decide) V4.l h17 V4.c h302 M42 (recv_first (k := 2) (by omega) (by omega) (by rw [upd_ne _ _ (by omega)]; simp [C0]) (by rw [hDk2]; exact hc2)) (fun val F' h => ?_) fun val2 F5' s2 r2 t2 T5 hTT hch2 hT5 h16 hlow5 => ?_
  · obtain ⟨b, cp, c, e, fr, tm, _, hb, hne, _, rfl⟩ := h
    have hb1 : b ≠ n2 := by have := hne 2 (by omega) (by omega); rw [hDk2, hc2] at this; exact this
    refine ⟨?_, 1, 1, tm, by rw [ext_ne _ _ _ (Ne.symm hb1), ext_eq]⟩
    rw [ext_ne _ _ _ (Ne.symm (ne_of hb M42)), ext_ne _ _ _ (Ne.symm hnm2)]
    exact M42
  obtain ⟨b2, cp2, q2, e2, f2, tm2, hh2, hb2, hne2, rfl, rfl⟩ := hTT
  have b2n2 : b2 ≠ n2 := by have := hne2 2 (by omega) (by omega); rw [hDk2, hc2] at this; exact this
  have Wb2 : W.heap[b2]? = none := notW V4.keep hb2
  have V5 := ((V4.ext (x := n2) (o := .chan 1 #[] false 1 1 tm2) W2 n2l hnc2).ext (x := b2) (o := .cells q2 e2 f2) Wb2 (ne_of hb2 V4.l) (ne_of hb2 V4.c)).ext (x := n2) (o := .chan 1 #[.slice (some ⟨b2, 0, none⟩) 8 cp2] false (s2 + 1) r2 t2) W2 n2l hnc2
  have M52 : ext (ext (ext F4 n2 (.chan 1 #[] false 1 1 tm2)) b2 (.cells q2 e2 f2)) n2 (.chan 1 #[.slice (some ⟨b2, 0, none⟩) 8 cp2] false (s2 + 1) r2 t2) m2 = some (.cells #[.chan (some n2)] 149 (0, 0)) := by
    rw [ext_ne _ _ _ (Ne.symm hnm2), ext_ne _ _ _ (Ne.symm (ne_of hb2 M42)), ext_ne _ _ _ (Ne.symm hnm2)]
    exact M42
  have B52 : ext (ext (ext F4 n2 (.chan 1 #[] false 1 1 tm2)) b2 (.cells q2 e2 f2)) n2 (.chan 1 #[.slice (some ⟨b2, 0, none⟩) 8 cp2] false (s2 + 1) r2 t2) b2 = some (.cells q2 e2 f2) := by
    rw [ext_ne _ _ _ b2n2, ext_eq]
  have B51 : ext (ext (ext F4 n2 (.chan 1 #[] false 1 1 tm2)) b2 (.cells q2 e2 f2)) n2 (.chan 1 #[.slice (some ⟨b2, 0, none⟩) 8 cp2] false (s2 + 1) r2 t2) b1 = some (.cells q1 e1 f1) := by
    rw [ext_ne _ _ _ b1n2, ext_ne _ _ _ (Ne.symm (ne_of hb2 B4)), ext_ne _ _ _ b1n2]
    exact B4
  have C5 : ext (ext (ext F4 n2 (.chan 1 #[] false 1 1 tm2)) b2 (.cells q2 e2 f2)) n2 (.chan 1 #[.slice (some ⟨b2, 0, none⟩) 8 cp2] false (s2 + 1) r2 t2) n2 = some (.chan 1 #[.slice (some ⟨b2, 0, none⟩) 8 cp2] false (s2 + 1) r2 t2) := ext_eq _ _ _
  generalize ext (ext (ext F4 n2 (.chan 1 #[] false 1 1 tm2)) b2 (.cells q2 e2 f2)) n2 (.chan 1 #[.slice (some ⟨b2, 0, none⟩) 8 cp2] false (s2 + 1) r2 t2) = F5 at *
  rw [sp18]
  refine mr_pure sim.base rfl (fun w => stepG_seq) ?_
  simp only [regK, Tryz.f3, Option.getD_some, tailC]
  have h145 := (hlow5 14 (by omega) (by omega)).trans h144
  refine wait_reg (ci := 1) (n := n2) (m := m2) (TT := TT2 F5 n2 (s2 + 1) r2 t2 (.slice (some ⟨b2, 0, none⟩) 8 cp2)) hT5 h145 rfl rfl rfl rfl rfl rfl rfl rfl rfl rfl rfl rfl rfl (by decide) (by decide) (by decide) (by decide) V5.l h17 V5.c h302 M52 (recv_again C5) (fun val F' h => ?_) fun val3 F6' s3 r3 t3 T6 hTT hch3 hT6 h17' hlow6 => ?_
  · obtain ⟨rfl, rfl⟩ := h
    exact ⟨by rw [ext_ne _ _ _ (Ne.symm hnm2)]; exact M52, _, _, _, ext_eq _ _ _⟩
  obtain ⟨rfl, rfl⟩ := hTT
  have V6 := (V5.ext (x := n2) (o := .chan 1 #[] false (s2 + 1) (r2 + 1) t2) W2 n2l hnc2).ext (x := n2) (o := .chan 1 #[.slice (some ⟨b2, 0, none⟩) 8 cp2] false (s3 + 1) r3 t3) W2 n2l hnc2
  rw [ext_ext] at V6 ⊢
  have B61 : ext F5 n2 (.chan 1 #[.slice (some ⟨b2, 0, none⟩) 8 cp2] false (s3 + 1) r3 t3) b1 = some (.cells q1 e1 f1) := by rw [ext_ne _ _ _ b1n2]; exact B51
  have B62 : ext F5 n2 (.chan 1 #[.slice (some ⟨b2, 0, none⟩) 8 cp2] false (s3 + 1) r3 t3) b2 = some (.cells q2 e2 f2) := by rw [ext_ne _ _ _ b2n2]; exact B52
  have hs1 := hsh_of (path := path) (ls := ls) (by rw [hDk1]; exact hH1) B61 hh1
  have hs2 := hsh_of (path := path) (ls := ls) (by rw [hDk2]; exact hH2) B62 hh2
  refine last_mr hDk0 (fun k k1 kJ => ?_) V6.keep hT6 rfl ((hlow6 15 (by omega) (by omega)).trans ((hlow5 15 (by omega) (by omega)).trans h15)) ((hlow6 16 (by omega) (by omega)).trans h16) h17' hs1 hs2 hs2 ?_ ?_
  · by_cases e : k = 2
    · subst e; exact upd_same _ _ _
    · rw [upd_ne _ _ e]
      obtain rfl : k = 1 := by omega
      exact upd_same _ _ _
  · obtain ⟨c, e, fr, h⟩ := g0
    exact ⟨c, e, fr, V6.keep 0 _ h⟩
  · obtain ⟨c, e, fr, h⟩ := g1
    exact ⟨c, e, fr, V6.keep 1 _ h⟩
end
end Go.Proofs.YtgjhmbbbkkidlaaGreatDoor.hash
/-
  The whole run of the law.
  Conditions: the rows are readable.
-/
namespace Go.Proofs.YtgjhmbbbkkidlaaGreatDoor.hash
open Go.ChangeShapes Go.WideShapes Go.ChangeAt Go.RowKit
open Go.Proofs.YtgjhmbbbkkidlaaGreatDoor.kit
open Go.Conc
open Go.Proofs.YtgjhmbbbkkidlaaGreatDoor.sim (Sit MR View Sees Dsc Cls At Rn WH WR ArR VR AdR MS FkR StR c0 C0 Ends Own)
section
variable {W : World} {path : ByteArray} {A B1 B2 B3 B4 : Option Addr} {n cap n1 n2 n3 n4 c1 c2 c3 c4 : Nat} {ls : List (List Int)} {xs1 ys1 xs2 ys2 : List Int}
/-- nobody's data: the starter alone -/
def dsc0 (W : World) : Dsc where
  k := 0
  d0 := []
  B := 0
  RB := fun _ => False
  RO := fun _ => False
  c := 0
  Q := fun _ => False
  H := #[]
  w0 := W
theorem ptr_of {ρ : Rn} {b : Nat} {o : Nat} {x' : Value} (h : VR ρ (.pointer (some ⟨b, o, none⟩)) x') : ∃ b', x' = .pointer (some ⟨b', o, none⟩) ∧ ρ.rel b b' := by
  cases h with
  | ptr r =>
    rename_i a'
    obtain ⟨r1, r2, r3⟩ := r
    obtain ⟨b', o', s'⟩ := a'
    simp only at r1 r2 r3
    subst r2 r3
    exact ⟨b', rfl, r1⟩
theorem slice_of {ρ : Rn} {b o l c : Nat} {x' : Value} (hp : 0 < l + c) (h : VR ρ (.slice (some ⟨b, o, none⟩) l c) x') : ∃ b', x' = .slice (some ⟨b', o, none⟩) l c ∧ ρ.rel b b' := by
  cases h with
  | slice l c r =>
    rename_i a'
    obtain ⟨r1, r2, r3⟩ := r hp
    obtain ⟨b', o', s'⟩ := a'
    simp only at r1 r2 r3
    subst r2 r3
    exact ⟨b', rfl, r1⟩
theorem run_ends (h : Inp W A B1 B2 B3 B4 n cap n1 n2 n3 n4 c1 c2 c3 c4 ls xs1 ys1 xs2 ys2) : GoalZ W (solo (G (fr3 body3 (args3 path A B1 B2 B3 B4 n cap n1 n2 n3 n4 c1 c2 c3 c4)) []) W) #[] := by
  refine (to_go (W := W) (path := path) (D := fun _ => dsc0 W) rfl h).ends fun m t hm => ?_
  obtain ⟨ρ, s, a', F1, ⟨hcs, hq⟩, ms, hat⟩ := hm
  obtain ⟨fr', cs', rfl, st⟩ := ms.st
  rw [hcs] at st
  obtain ⟨rfl, fk⟩ := base_of st
  have hK : Keep W F1 := fun b o hb => ms.keep b o hb
  have fin : ∀ {a : Goroutine}, MR Tryz.prog 0 (fun _ => dsc0 W) F1 a C0 (GoalZ W) → At Tryz.prog 0 (fun _ => dsc0 W) F1 a C0 m t → GoalZ W m t := fun hm hat => (hm m t hat).ends fun _ _ x => x
  rcases hq with ⟨a, hgo, hfr⟩ | ⟨a, todo, he, hfr⟩
  · rw [hfr] at fk
    obtain ⟨efr, har⟩ := cut_frame fk
    rw [cutTail14] at efr
    obtain ⟨lb, cb, hsz, h14, _, hready⟩ := hgo.ex
    obtain ⟨x, hx, hvr⟩ := har.get h14
    obtain ⟨lb', rfl, rl⟩ := ptr_of hvr
    rw [efr] at hat
    have hT : fr'.tmps.size = 124 := har.1.symm.trans hsz
    generalize fr'.tmps = T at hat hx hT
    obtain ⟨w, hw⟩ : ∃ w, Sees F1 w := by
      obtain ⟨O, cl, rk, gs, w, sl, _, hc, _⟩ := id hat
      exact ⟨w, hc.sees⟩
    have wh := ms.wh w hw
    obtain ⟨ob, lcs, ocs, hL, hL0, hL17, hO, hO31⟩ := hready.l
    obtain ⟨ccs, hC, hlen, hch⟩ := hready.c
    obtain ⟨x17, hw17, hv17⟩ := wh_cell wh rl ((hL.cell 17).trans hL17)
    obtain ⟨cb', rfl, rc⟩ := slice_of (by omega) hv17
    have seen : ∀ b b', ρ.rel b b' → ∀ o, w.heap[b']? = some o → F1 b' = some o := fun b b' r o ho => by
      have := ms.rng b b' r
      cases hf : F1 b' with
      | none => rw [hf] at this; cases this
      | some o2 => rw [hw b' o2 hf] at ho; exact ho
    have hlcne : lb ≠ cb := hL.apart hC (by decide)
    have hcb : ∃ cc', F1 cb' = some (.cells cc' 146 (0, 0)) ∧ cc'.size = 44 ∧ ρ.own cb := by
      have hC0 : s.v.heap[cb]? = some (.cells ccs.toArray 146 (0, 0)) := hC
      rcases wh.rng cb cb' rc with ⟨c, e, fr, c', fr', q1, q2, q3, q4⟩ | ⟨_, _, _, q1, _⟩
      · rw [hC0] at q1
        cases q1
        rcases q4 with ⟨ho, hfr', hsz'⟩ | ⟨_, ice⟩
        · refine ⟨c', seen cb cb' rc _ (by rw [q2, hfr']), by rw [hsz']; simpa using hlen, ho⟩
        · have := ice 0 (by simp [hlen])
          simp at this
      · rw [hC0] at q1
        cases q1
    obtain ⟨cc', hF, hcs', ho⟩ := hcb
    have hlk : ∃ lc lt lf, F1 lb' = some (.cells lc lt lf) ∧ lc[17]? = some (.slice (some ⟨cb', 0, none⟩) 2 2) := by
      have hL0' : s.v.heap[lb]? = some (.cells lcs.toArray 123 (0, 0)) := hL
      rcases wh.rng lb lb' rl with ⟨c, e, fr, c', fr', q1, q2, q3, q4⟩ | ⟨_, _, _, q1, _⟩
      · refine ⟨c', e, fr', seen lb lb' rl _ q2, ?_⟩
        unfold World.cell? at hw17
        dsimp only at hw17
        rw [q2] at hw17
        exact hw17
      · rw [hL0'] at q1
        cases q1
    have K : Kw ρ s.v path ls lb cb lb' cb' cc' F1 := by
      refine ⟨hready, rl, rc, ms.wh, ?_, fun g hg => ms.hg g (by rw [nglob]; exact hg), fun o0 => ?_, ms.rng, hF, hcs', hlk⟩
      · have := ms.hG
        rw [nglob] at this
        exact this
      · have := (ms.own 0 ⟨0, o0, ms.hg 0 (by rw [nglob]; omega)⟩).1
        obtain ⟨c, e, fr, hc⟩ := h.g0
        rw [hc] at this
        cases this
    have hlne : lb' ≠ cb' := fun e => hlcne (ρ.inj _ _ _ (e ▸ rl) rc)
    exact fin (mid_mr K rfl hK (ms.own cb' ⟨cb, ho, rc⟩).1 hlne hT hx h.g0 (isRow_of h.g1)) hat
  · rw [hfr] at fk
    obtain ⟨x, hx, hvr⟩ := fk.rel.tmps.get (i := 12) he.ex.1
    cases hvr
    have efr : fr' = { (base 3).at ⟨fr'.tmps, []⟩ fr'.todo with mode := .returning } := by
      have r1 := fk.rel.fn
      have r2 := fk.rel.mode
      have r3 := fk.rel.kind
      have r4 := fk.rel.round'
      have r5 := fk.rel.defers'
      cases fr'
      simp only [Frame.at, base] at *
      subst r1 r2 r3 r4 r5
      rfl
    rw [efr] at hat
    exact fin (end_mr rfl (fun k k1 k0 => absurd k1 (by omega)) hK hx _) hat
end
end Go.Proofs.YtgjhmbbbkkidlaaGreatDoor.hash
