/-
  The worker at its send: what it offers, how it ends.
  Conditions: what it reads is there.
-/
import Derived.Conc.Quits
import Derived.Conc.Own2
import Derived.Test.YtgjhmbbbkkidlaaGreatDoorWd
import Derived.Test.YtgjhmbbbkkidlaaGreatDoorJe
import Derived.Test.YtgjhmbbbkkidlaaGreatDoorJd
namespace Go.Proofs.YtgjhmbbbkkidlaaGreatDoor.hash
open Go.ChangeShapes Go.WideShapes Go.ChangeAt Go.RowKit
open Go.Proofs.YtgjhmbbbkkidlaaGreatDoor.kit
open Go.Proofs.YtgjhmbbbkkidlaaGreatDoor.sim (Sit Stops QOk Working Dsc Own StR Gv OkEv c0 Live Agrees Fin Gd0 onT)
open Go.Conc
noncomputable def bot : Frame := { (default : Frame) with fn := Tryz.prog.funcs.size, defers := [], mode := .panicking [goexitEntry] }
/-- the worker stands at its send -/
def WQ (ch : Nat) (H : Array Value) (s : Sit) : Prop := ∃ a g cp, s.fr = (baseD 18).at a [.inRegion ops34 [3]] ∧ s.cs = [c0 Tryz.prog] ∧ a.defers = [] ∧ a.tmps[184]? = some (.chan (some ch)) ∧ a.tmps[186]? = some (.slice (some ⟨g, 0, none⟩) 8 cp) ∧
  (∀ i, i < 8 → ∃ n, s.v.cell? ⟨g, i, none⟩ = some (.int .u8 n) ∧ H[i]? = some (.int .u8 n)) ∧ s.v.frozen? ⟨g, 0, none⟩ = false
theorem wq_stops (ch : Nat) (H : Array Value) : Stops (WQ ch H) := by
  refine ⟨fun s T h => h, ?_, ?_⟩
  · rintro s ⟨a, g, cp, h1, h2, _⟩
    rw [h2]
    simp
  · rintro s ⟨a, g, cp, h1, h2, _⟩ c
    rw [h1]
    simp [Frame.at]
theorem quits (T : Array Value) : QuitsIn Tryz.prog 4 (G ((baseD 18).at ⟨T, []⟩ [.inRegion ops34 []]) [bot]) := by
  refine QuitsIn.ctl rfl (fun w => stepG_region_end) ?_
  refine QuitsIn.ctl rfl (fun w => stepG_end) ?_
  refine QuitsIn.ctl (g' := G bot []) rfl (fun w => ?_) ?_
  · simp [G, stepG, unwind, doReturn, results, Frame.at, baseD, bot, Tryz.func18, Tryz.f18, seen, GStep.after, goexitEntry]
  refine QuitsIn.ctl (g' := { G bot [] with status := .finished }) rfl (fun w => ?_) rfl
  simp [G, stepG, unwind, bot, goexitEntry, Frame.catches]
  rfl
theorem wq_ok {D : Dsc} {ch : Nat} {H : Array Value} (hQ : D.Q = WQ ch H) (hd0 : D.d0 = [bot]) (hc : D.c = ch) (hH : D.H = H) : QOk Tryz.prog D := by
  intro ρ s g w hW hq
  rw [hQ] at hq
  obtain ⟨a, bl, cp, hfr, hcs, hda, h184, h186, hby, hfz⟩ := hq
  obtain ⟨fr', cs', rfl, st⟩ := hW.st
  rw [hfr, hcs, hd0] at st
  have key : cs' = [bot] ∧ sim.FkR Tryz.prog ρ ((baseD 18).at a [.inRegion ops34 [3]]) fr' := by
    generalize hl : [c0 Tryz.prog] = l at st
    cases st with
    | base fk _ => exact ⟨rfl, fk⟩
    | cons fk _ _ st2 =>
      injection hl with e1 e2
      subst e2
      exact (st2.ne rfl).elim
  obtain ⟨rfl, fk⟩ := key
  have htodo : fr'.todo = [.inRegion ops34 [3]] := by
    have := fk.todo
    obtain ⟨_, k', e, hk'⟩ := sim.TodoR.region (l' := fr'.todo) (ops := ops34) (is := [3]) (k := []) this
    cases hk'
    exact e
  have efr : fr' = (baseD 18).at ⟨fr'.tmps, []⟩ [.inRegion ops34 [3]] := by
    have r1 := fk.rel.fn
    have r2 := fk.rel.mode
    have r3 := fk.rel.kind
    have r4 := fk.rel.round'
    have r5 := fk.rel.defers'
    cases fr'
    simp only [Frame.at, baseD] at *
    subst r1 r2 r3 r4 r5 htodo
    rfl
  have tm := fk.rel.tmps
  obtain ⟨v1, hv1, hr1⟩ := tm.get h184
  obtain ⟨v2, hv2, hr2⟩ := tm.get h186
  cases hr1
  cases hr2 with
  | slice l c ad0 =>
    rename_i ad'
    have ad := ad0 (by omega)
    clear ad0
    have ead : ad' = ⟨ad'.block, 0, none⟩ := by
      obtain ⟨_, q1, q2⟩ := ad
      cases ad'
      simp only at q1 q2 ⊢
      rw [q1, q2]
    have hrel : ρ.rel bl ad'.block := ad.1
    rw [efr]
    generalize fr'.tmps = T at *
    obtain ⟨o3, e3, o3op, o3d, o3g⟩ : ∃ o3, ops34[3]? = some o3 ∧ o3.op = .send (.tmp 184) (.tmp 186) ∧ o3.dst = none ∧ o3.guard = none := ⟨_, rfl, rfl, rfl, rfl⟩
    have v184 : (Act.mk T []).eval (.tmp 184) = .chan (some ch) := by simp [Act.eval, Array.getD_eq_getD_getElem?, hv1]
    have v186 : (Act.mk T []).eval (.tmp 186) = .slice (some ad') 8 cp := by simp [Act.eval, Array.getD_eq_getD_getElem?, hv2]
    have hw3 : Region.wanted o3 (yielded ops34 T) = true := by simp [Region.wanted, o3g]
    have hx : execOp (Act.mk T []).eval o3 = pure (.comm #[scase ch (.slice (some ad') 8 cp) (.tuple #[])] true .send) := by
      unfold execOp
      rw [o3op]
      simp only [v184, v186, scase]
    have hr : (execOp (Act.mk T []).eval o3).run Tryz.prog w = .ok (.comm #[scase ch (.slice (some ad') 8 cp) (.tuple #[])] true .send) w := by rw [hx]; rfl
    have hev : listed Tryz.prog (baseD 18).fn (Act.mk T []) o3 w = #[] := by
      unfold listed
      rw [hx]
      simp [seen_none]
    refine ⟨.slice (some ad') 8 cp, .tuple #[], #[], 4, ?_, fun e he => by simp at he, ?_, ?_⟩
    · rw [hc, ← hev]
      exact stepG_comm e3 hw3 (by decide) hr
    · have hf : ((baseD 18).at ⟨T, []⟩ [.inRegion ops34 [3]]).finish undef = (baseD 18).at ⟨T, []⟩ [.inRegion ops34 []] := by
        rw [Frame.finish_at, e3]
        simp [o3d, Act.put]
      show QuitsIn Tryz.prog 4 { (G ((baseD 18).at ⟨T, []⟩ [.inRegion ops34 [3]]) [bot]) with frame := ((baseD 18).at ⟨T, []⟩ [.inRegion ops34 [3]]).finish undef, status := .running, offers := none }
      rw [hf]
      exact quits T
    · rw [hH]
      obtain ⟨n0, hb0, _⟩ := hby 0 (by decide)
      have hcell : ∃ c e fr, s.v.heap[bl]? = some (Obj.cells c e fr) ∧ ∀ i, s.v.cell? ⟨bl, i, none⟩ = c[i]? := by
        unfold World.cell? at hb0
        cases hh : s.v.heap[bl]? with
        | none => rw [hh] at hb0; cases hb0
        | some o =>
          cases o with
          | cells c e fr => exact ⟨c, e, fr, rfl, fun i => by unfold World.cell?; rw [hh]; rfl⟩
          | _ => rw [hh] at hb0; cases hb0
      obtain ⟨c, e, fr, hh, hcl⟩ := hcell
      have h0 : c[0]? = some (.int .u8 n0) := (hcl 0).symm.trans hb0
      have hsz : 0 < c.size := (Array.getElem?_eq_some_iff.1 h0).1
      rcases hW.wh.rng _ _ hrel with ⟨c1, e1, fr1, c2, fr2, p1, p2, ⟨p3, p3'⟩, p4⟩ | ⟨n, n', l, p1, _⟩
      · rw [hh] at p1
        cases p1
        have hown : ρ.own bl := by
          rcases p4 with ⟨o, _⟩ | ⟨_, ice⟩
          · exact o
          · exfalso
            obtain ⟨q1, q2⟩ := ice 0 hsz
            unfold World.frozen? at hfz
            rw [hh] at hfz
            obtain ⟨f1, f2⟩ := fr
            dsimp only at q1 q2 hfz
            simp at hfz
            omega
        refine ⟨ad'.block, cp, c2, e, fr2, by rw [← ead], ⟨bl, hown, hrel⟩, p2, fun i hi => ?_⟩
        obtain ⟨m, m1, m2⟩ := hby i hi
        obtain ⟨v', q1, q2⟩ := p3' i _ ((hcl i).symm.trans m1)
        cases q2
        exact ⟨_, q1, m2⟩
      · rw [hh] at p1
        cases p1
end Go.Proofs.YtgjhmbbbkkidlaaGreatDoor.hash
/-
  The worker as it is started.
  Conditions: what it reads is there.
-/
namespace Go.Proofs.YtgjhmbbbkkidlaaGreatDoor.hash
open Go.ChangeShapes Go.WideShapes Go.ChangeAt Go.RowKit
open Go.Proofs.YtgjhmbbbkkidlaaGreatDoor.kit
open Go.Proofs.YtgjhmbbbkkidlaaGreatDoor.sim (Sit Stops QOk Working Dsc Own StR Gv OkEv c0 Live Agrees Fin Gd0 onT Rn WH ArR VR Fresh View Sees)
open Go.Conc
def args18 (lb cb off ch : Nat) : Array Value := #[.pointer (some ⟨lb, 0, none⟩), .pointer (some ⟨cb, off, none⟩), .chan (some ch)]
noncomputable def hashOf (path : ByteArray) (ls : List (List Int)) : Array Value := ((sumB (fin path ls)).map byte).toArray
noncomputable def sit0 (v : World) (lb cb off ch : Nat) : Sit := ⟨Frame.enter Tryz.prog 18 (args18 lb cb off ch) .deferred, [c0 Tryz.prog], v⟩
theorem Bytes.onT {v : World} {b o : Nat} {l : List Int} (h : Bytes v b o l) (T : Tape) (D : Nat) : Bytes (onT v T D) b o l := h
theorem Pc.onT {v : World} {pb i : Nat} {l : List Int} (h : Pc v pb i l) (T : Tape) (D : Nat) : Pc (onT v T D) pb i l := ⟨h.ex⟩
theorem Rd.onT {v : World} {lb cb off : Nat} {path : ByteArray} {ls : List (List Int)} (h : Rd v lb cb off path ls) (T : Tape) (D : Nat) : Rd (onT v T D) lb cb off path ls :=
  ⟨h.g1, h.h4, h.h5, h.h10, h.h11, h.h12, h.hp.elim fun pb hp => ⟨pb, hp.1, fun i hi => (hp.2 i hi).onT T D⟩, h.ho, h.hn, h.hq⟩
theorem enter18 (x : Array Value) : Frame.enter Tryz.prog 18 x .deferred = (baseD 18).at { tmps := x ++ Array.replicate (187 - x.size) undef, defers := [] } [.code body18] := enter_atD x Tryz.func18 rfl
theorem worker_fin {v : World} {lb cb off ch : Nat} {path : ByteArray} {ls : List (List Int)} (h : Rd v lb cb off path ls) {d0 : List Frame} (gd : Gd0 Tryz.prog d0 (sit0 v lb cb off ch)) : Fin Tryz.prog (WQ ch (hashOf path ls)) (sit0 v lb cb off ch) := by
  refine sim.fin_of_live (sim.gds sim.base d0) (wq_stops _ _) gd fun T hT => ?_
  obtain ⟨a, w, hA, n, hs⟩ := worker_runs _ lb cb off ch path ls (h.onT T v.drawn) [c0 Tryz.prog]
  obtain ⟨g, cp, h186, hby, hf⟩ := hA.ex
  refine ⟨n, ⟨(baseD 18).at a [.inRegion ops34 [3]], [c0 Tryz.prog], w⟩, ?_, a, g, cp, rfl, rfl, hA.d, hA.c, h186, fun i hi => ?_, hf⟩
  · unfold sit0 Sit.on Sit.m
    rw [enter18]
    exact hs
  · have h8 : (sumB (fin path ls)).length = 8 := rfl
    refine ⟨(sumB (fin path ls)).getD i 0, ?_, ?_⟩
    · have := hby i (by rw [h8]; exact hi)
      rw [Nat.zero_add] at this
      exact this
    · unfold hashOf
      rw [List.getElem?_toArray, List.getElem?_map, List.getElem?_eq_getElem (by rw [h8]; exact hi)]
      simp [byte, List.getD, List.getElem?_eq_getElem (show i < (sumB (fin path ls)).length by rw [h8]; exact hi)]
theorem born_step (x : Array Value) (w : World) : stepG Tryz.prog false (born Tryz.prog (dcall 18 x)) w = .go (G (Frame.enter Tryz.prog 18 x .deferred) [bot]) w #[] := by
  have hn0 : (Tryz.f18.name == "runtime.NumGoroutine") = false := by kernel_rfl
  have hn : ¬ Tryz.f18.name = "runtime.NumGoroutine" := by simpa using hn0
  have hb : ¬ Tryz.f18.body = none := by simp [Tryz.f18]
  simp [born, dcall, stepG, unwind, callDeferred, invoke, callFunc, Tryz.func18, hn, hb, seen, GStep.after, G, bot]
theorem has18 : sim.HasBody Tryz.prog 18 := ⟨.inr (.inr (.inr (.inl ⟨by decide, by decide⟩))), Tryz.f18, Tryz.func18, by kernel_rfl, by kernel_rfl⟩
/-- the worker's data -/
noncomputable def dsc (ρ : Rn) (v w : World) (ch : Nat) (path : ByteArray) (ls : List (List Int)) : Dsc where
  k := 0
  d0 := [bot]
  B := w.heap.size
  RB := fun b' => ∃ b, ρ.rel b b'
  RO := fun a => a.spot = none ∧ ∃ b x, ρ.rel b a.block ∧ v.cell? ⟨b, a.off, none⟩ = some x
  c := ch
  Q := WQ ch (hashOf path ls)
  H := hashOf path ls
  w0 := w
theorem fresh_worker {F : View} {v w : World} {ρ : Rn} {lb cb off ch : Nat} {path : ByteArray} {ls : List (List Int)} {tm : Bool} {x' : Array Value} (h : Rd v lb cb off path ls)
    (hwh : WH ρ v w) (hG : Tryz.prog.globals.size ≤ ρ.g0) (hg : ∀ g, g < Tryz.prog.globals.size → ρ.rel g g) (hown : ∀ b, ¬ ρ.own b) (hF : ∀ b b', ρ.rel b b' → (F b').isSome = true)
    (hch : F ch = some (.chan 1 #[] false 0 0 tm)) (hx : ArR ρ (args18 lb cb off ch) x') : Fresh Tryz.prog F w (dsc ρ v w ch path ls) (sit0 v lb cb off ch) (born Tryz.prog (dcall 18 x')) := by
  have st : StR Tryz.prog [bot] ρ (Frame.enter Tryz.prog 18 (args18 lb cb off ch) .deferred) [c0 Tryz.prog] (Frame.enter Tryz.prog 18 x' .deferred) [bot] := .base (sim.FkR.enter sim.base.bodies has18 hx .deferred) (.inl rfl)
  have no : ∀ b, ¬ Own ρ b := fun b ⟨b0, o, _⟩ => hown b0 o
  refine ⟨rfl, ?_, ⟨tm, hch⟩, ⟨_, born_step x', rfl, ρ, ⟨⟨_, _, rfl, st⟩, hwh, hG, hg, fun b b' r => ?_⟩, no⟩, worker_fin h (d0 := [bot]) ⟨ρ, onT w v.tape v.drawn, _, _, st, ⟨hwh.rng, hwh.g0, hwh.own, hwh.only, fun _ _ => rfl⟩, hG, hg⟩, rfl, wq_ok rfl rfl rfl rfl⟩
  · rintro b ⟨b0, r⟩
    exact ⟨hF b0 b r, (hwh.lt r).2⟩
  · exact .inl ⟨(hwh.lt r).2, ⟨b, r⟩, hown b, fun o x hx => ⟨rfl, b, x, r, hx⟩⟩
end Go.Proofs.YtgjhmbbbkkidlaaGreatDoor.hash
