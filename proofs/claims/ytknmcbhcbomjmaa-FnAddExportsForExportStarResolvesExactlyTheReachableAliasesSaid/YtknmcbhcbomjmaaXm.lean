/-
  A piece of the first law's function over this seat's program: all of it.
  Conditions: what lies in memory behind the call.
-/
import Derived.Test.YtknmcbhcbomjmaaXp
import Derived.BigRegion
import Derived.LoopTactic
import Derived.Outline
import Derived.IntWalk
import Derived.Deep.QuietTactic
import Derived.BigQuiet
import Derived.Deep.RegionHeld3
import Derived.Deep.RegionWith
import Derived.Deep.CutBlock
import Derived.Deep.CutRange
import Derived.Deep.DeepCutAuto
import Derived.OwnWalk
import Derived.WalkMore
import Derived.Deep.LoopGhost
import Derived.Test.YtknmcbhcbomjmaaXa
import Derived.Test.YtknmcbhcbomjmaaXf
import Derived.Test.YtknmcbhcbomjmaaXj
import Derived.Test.YtknmcbhcbomjmaaXw
namespace Go.Proofs.Ytknmcbhcbomjmaa.xs
open Go.ChangeShapes Go.WideShapes Go.ChangeAt Go.RowKit
open kit
open Go.Maps (Keyed)
open Go.ChangeMaps (setBlock)

theorem mapF_len {P : Program} {k t e : TypeId} {w : World} {b n : Nat} {f : Value → Option Value} (h : mapf.MapF P k w b n f) (ht : P.underlying t = some (.map k e)) (ty : TypeId) : (Builtin.len_ #[t] ty #[.map (some b)]).run P w = .ok (.int .i64 n) w := by
  obtain ⟨es, c, hb, h1, _⟩ := h
  simp [Builtin.len_, run_underlying ht, MapKept.run_getObj_map hb, goInt, Result.andThen, h1]
def LawTrue (w : World) (e : Ending) (w' : World) : Prop := e = .returned (.bool true) ∧ Kept w w'
theorem LW_start {w3 W5 : World} {fs : List EF} {n s q1 q2 : Nat} {v5 : Value} (hs : s < n) (p1 : Wk W5 w3.heap.size 3 1 intc v5 [s]) (p2 : Bools W5 q1 n (fun _ => false)) (p3 : Bools W5 q2 n (updB (fun _ => false) s)) (p4 : Kept w3 W5) : LW w3 fs n s q1 q2 v5 W5 :=
  ⟨_, _, [s], Wl.start hs, p1, p2, p3, p4, by
    have h1 := open_upd (R := fun _ => false) hs rfl
    have h2 := open_le n (fun _ => false)
    simp only [List.length_singleton]
    omega⟩
def L17 (w3 : World) (n q1 ob : Nat) (Rr : Nat → Bool) (xs : List ByteArray) (t17 : Value) (W : World) : Prop := ∃ j no : Nat, j ≤ xs.length ∧ t17 = .int .i64 (j : Int) ∧ mapf.MapF Try.prog 9 W ob no (setV fun x => ∃ i, i < j ∧ xs.getD i ByteArray.empty = x) ∧ Bools W q1 n Rr ∧ Kept w3 W
theorem L17.start {w3 W : World} {n q1 : Nat} {Rr : Nat → Bool} {xs : List ByteArray} (hq : Bools W q1 n Rr) (hk : Kept w3 W) : L17 w3 n q1 W.heap.size Rr xs (.int .i64 0) (W.alloc (.map #[] 0)) :=
  ⟨0, 0, Nat.zero_le _, rfl, by
    have e : (fun x : ByteArray => ∃ i, i < 0 ∧ xs.getD i ByteArray.empty = x) = fun _ => False := by
      funext x
      apply propext
      exact ⟨fun ⟨i, h, _⟩ => (by omega), fun h => h.elim⟩
    rw [e, setV_none]
    exact mapf.MapF.made Try.prog 9 W, hq.kept ((Kept.refl _).alloc _), hk.alloc _⟩
theorem own_succ (xs : List ByteArray) (j : Nat) : (fun x : ByteArray => (∃ i, i < j ∧ xs.getD i ByteArray.empty = x) ∨ x = xs.getD j ByteArray.empty) = fun x => ∃ i, i < j + 1 ∧ xs.getD i ByteArray.empty = x := by
  funext x
  apply propext
  constructor
  · rintro (⟨i, h1, h2⟩ | rfl)
    · exact ⟨i, by omega, h2⟩
    · exact ⟨j, by omega, rfl⟩
  · rintro ⟨i, h1, h2⟩
    by_cases e : i = j
    · rw [e] at h2; exact .inr h2.symm
    · exact .inl ⟨i, by omega, h2⟩
theorem own_all (fs : List EF) (s : Nat) : (fun x : ByteArray => ∃ i, i < (exF fs s).length ∧ (exF fs s).getD i ByteArray.empty = x) = exNE fs s := by
  funext x
  exact propext NEf_is.symm
def L20 (w3 : World) (fs : List EF) (n s : Nat) (ρ : ByteArray → Option Ent) (q1 ob sb no : Nat) (Rr : Nat → Bool) (t19 t20 : Value) (W : World) : Prop := ∃ v : Nat, v ≤ n ∧ t20 = .int .i64 (v : Int) ∧ MV w3 fs n s ρ q1 ob sb no Rr v t19 W
theorem L20.start {w3 W : World} {fs : List EF} {n s : Nat} {ρ : ByteArray → Option Ent} {q1 ob no : Nat} {Rr : Nat → Bool} (hk : Kept w3 W) (ho : mapf.MapF Try.prog 9 W ob no (setV (exNE fs s))) (hq : Bools W q1 n Rr) : L20 w3 fs n s ρ q1 ob W.heap.size no Rr (.int .i64 0) (.int .i64 0) (W.alloc (.map #[] 0)) :=
  ⟨0, Nat.zero_le _, rfl, 0, fun _ => False, [], rfl, hk.alloc _, ho.kept ((Kept.refl _).alloc _), by rw [setV_none]; exact mapf.MapF.made Try.prog 9 W, hq.kept ((Kept.refl _).alloc _), Sn.start ρ, Nat.zero_le _, fun u hu => absurd hu (by omega), fun i hi => absurd hi (by omega)⟩
theorem counted {w3 W : World} {fs : List EF} {n s b off rb RES B0 q1 ob sb no : Nat} {J IB : Nat → Nat} {V : ByteArray → Value} {ρ : ByteArray → Option Ent} {R : Nat} {β : Nat → Nat × Nat → Bool} {bn : Nat → Nat} {Rr : Nat → Bool} {ns : Nat} {S : ByteArray → Prop} {dl : List ByteArray}
    (H : Aft w3 fs n s b off rb RES B0 J IB V ρ R β bn) (hRr : ∀ x, Rr x = true ↔ InF fs s x) (h : Cn w3 fs n s ρ q1 ob sb no Rr W n 0 ns S dl) : dl.length = R ∧ R ≤ 4096 := by
  have e := count_res H.res h.sn fun x hx => by
    obtain ⟨_, _, v, h1, h2, h3⟩ := (H.is x).1 hx
    exact h.past v h2 ((hRr v).2 h1) x h3
  refine ⟨e, ?_⟩
  have h1 := h.len
  have h2 := H.fit.names
  omega
def L33 (w3 : World) (n : Nat) (bn : Nat → Nat) (t32 t33 : Value) (W : World) : Prop := ∃ k x : Nat, k ≤ n ∧ t33 = .int .i64 (k : Int) ∧ t32 = .int .i64 (x : Int) ∧ Hid (x = ((List.range k).map bn).sum) ∧ w3 = W
set_option maxRecDepth 1000000 in
set_option maxHeartbeats 64000000 in
theorem law (w : World) (a : Option Addr) (n c : Nat) (fs : List EF) (s0 : Int) (h : Fs w a n fs) (hnc : n ≤ maxLen) (hs : 0 ≤ s0) :
    Calls Try.prog 3 #[.slice a n c, .int .u32 s0] w (LawTrue w) := by
  have HF := Lib.hid h
  have HNC := Lib.hid hnc
  have hm : n ≤ 9223372036854775807 := by unfold maxLen at hnc; exact hnc
  clear h hnc
  obtain ⟨i0, hi, hz0, hz1, hz2⟩ := info_parts info3
  have HI := Lib.hid (And.intro hi (And.intro hz0 (And.intro hz1 hz2)))
  clear hi hz0 hz1 hz2
  go_enter Try.func3, Try.ntmps3
  go_wp2_with fail
  refine (bytes5 w a n c s0 fs HF.out HNC.out).mono ?_
  rintro e w' ⟨⟨b0, rfl, hb0⟩, rfl⟩
  cases b0
  · clear hb0
    go_wp2_with fail
    go_ret
    exact ⟨rfl, Kept.refl _⟩
  · have hn := (hb0 rfl).1
    have HS := Lib.hid (hb0 rfl).2
    clear hb0
    go_wp2_with fail
    refine (fits w a n c fs HF.out hn HS.out).mono ?_
    rintro e w' ⟨⟨b0, rfl, hb0⟩, rfl⟩
    cases b0
    · clear hb0
      go_wp2_with fail
      go_ret
      exact ⟨rfl, Kept.refl _⟩
    · have HFit : Hid (Fit n fs) := Lib.hid (hb0 rfl)
      have hn2 := HFit.out.top
      clear hb0
      have W32 : IntKind.u32.wrap (n : Int) = (n : Int) := by rw [IntKind.wrap_u32]; omega
      by_cases hsn : s0 < (n : Int)
      · obtain ⟨s, rfl⟩ := Int.eq_ofNat_of_zero_le hs
        have hv : s < n := by omega
        obtain ⟨b, off, rfl, _, _⟩ := HF.out.2.1 (by omega)
        go_wp2_with fail
        refine (build w _ n c fs HF.out HFit.out).mono ?_
        rintro e w1 ⟨rfl, q, hB⟩
        have HB := Lib.hid hB
        clear hB
        go_wp2_with fail
        refine (newCtx w1 (w.heap.size + 1) n).mono ?_
        rintro e w2 ⟨cb, cs, rfl, hcb, hc10, hcs, k2⟩
        obtain ⟨sz, hapt, hpre⟩ := begins HB.out HF.out HFit.out hv k2 hcb hc10
        have HAP := Lib.hid hapt
        have HPR := Lib.hid hpre
        have K2 := Lib.hid k2
        have hmm : (Instr.makeMap 32 none).run Try.prog w2 = .ok (.map (some w2.heap.size)) (w2.alloc (.map #[] 0)) := rfl
        clear hcb hc10 hcs k2 hapt hpre
        have HD := Lib.hid (door (layOf w w2 cb n q fs sz) s HAP.out _ _ _ _ _ _ HPR.out)
        go_wp2_with fail
        refine (HD.out).mono ?_
        intro e w3 hP
        obtain ⟨rfl, hr3, V, ρ, R, β, bn, hL⟩ := leaves HB.out HFit.out K2.out HAP.out HPR.out hP
        have HA := Lib.hid (hL.aft HF.out HFit.out hv hr3)
        have HK03 := Lib.hid hL.kept
        clear hL hP hr3 HD hmm
        generalize w2.heap.size = RES at *
        clear HPR HAP K2
        generalize w.heap.size = rb at *
        clear HB HS
        obtain ⟨J, hJ⟩ : ∃ J, J = q.J := ⟨_, rfl⟩
        obtain ⟨IB, hIB⟩ : ∃ IB, IB = q.I := ⟨_, rfl⟩
        rw [← hJ, ← hIB] at HA
        clear hJ hIB
        as_aux_lemma =>
          obtain ⟨C, lC, gC, mC⟩ := makeN (T := 34) (E := 4) (size := 1) (bytes := 1) Try.underlying34 (by kernel_rfl) n (by omega) (by omega)
          have hC0 := gC 0 (.bool false) (by omega) (by kernel_rfl)
          simp only [Nat.mul_one, Nat.add_zero] at hC0 lC
          obtain ⟨cur, lcur, mcur⟩ := make0 (T := 35) (E := 3) (z := .int .i64 0) (size := 1) (bytes := 8) Try.underlying35 (by kernel_rfl) n (n : Int) rfl (by omega) (by unfold maxLen; omega)
          have HQ : Hid (Bools (((w3.alloc (.cells C.toArray 4)).alloc (.cells C.toArray 4)).alloc (.cells cur 3)) w3.heap.size n (fun _ => false)) := Lib.hid ((Bools.made w3 lC hC0).kept (((Kept.refl _).alloc _).alloc _))
          have HX : Hid (Bools (((w3.alloc (.cells C.toArray 4)).alloc (.cells C.toArray 4)).alloc (.cells cur 3)) (w3.heap.size + 1) n (fun _ => false)) := Lib.hid (by
            have := (Bools.made (w3.alloc (.cells C.toArray 4)) lC hC0).kept ((Kept.refl _).alloc (.cells cur 3))
            simpa using this)
          have HW : Hid ((((w3.alloc (.cells C.toArray 4)).alloc (.cells C.toArray 4)).alloc (.cells cur 3)).ownsRow w3.heap.size 3 1 (.slice (some ⟨w3.heap.size + 2, 0, none⟩) 0 n) 0 []) := Lib.hid (by
            have := World.ownsRow_made (base := w3.heap.size) (e := 3) (size := 1) ((w3.alloc (.cells C.toArray 4)).alloc (.cells C.toArray 4)) cur n (by simp; omega) (by unfold maxLen; omega) lcur
            simpa using this)
          have HK : Hid (Kept w3 (((w3.alloc (.cells C.toArray 4)).alloc (.cells C.toArray 4)).alloc (.cells cur 3))) := Lib.hid ((((Kept.refl _).alloc _).alloc _).alloc _)
          clear gC hC0 lC lcur
          go_upto_region 15 with fail
          clear mC mcur
          generalize ((w3.alloc (.cells C.toArray 4)).alloc (.cells C.toArray 4)).alloc (.cells cur 3) = wq at *
          have HB3 : Hid (w3.heap.size ≤ w3.heap.size) := Lib.hid (Nat.le_refl _)
          obtain ⟨g3, hg3⟩ : ∃ g3, g3 = w3.heap.size := ⟨_, rfl⟩
          rw [← hg3] at HQ HX HW ⊢
          have HG3 := Lib.hid hg3
          clear hg3 HB3
          as_aux_lemma =>
            have x0 := HX.out.cell hv
            have x1 := HX.out.free s
            have v0 : (0 : Int) ≤ (s : Int) := by omega
            have v1 : (s : Int) < (n : Int) := by omega
            have W64 : IntKind.i64.wrap (s : Int) = (s : Int) := IntWalk.i64_in _ (by omega)
            go_upto_region 16 with fail
            have HX2 := Lib.hid (bools_up HX.out hv)
            have HQ2 := Lib.hid (HQ.out.far (p := ⟨g3 + 1, s, none⟩) (by show g3 ≠ g3 + 1; omega) (.bool true))
            have HW2 := Lib.hid (Wk.farBlk (f := intc) (wk := []) (Wk.of_own HW.out rfl rfl) HX.out (by decide) s (.bool true))
            have HK2 := Lib.hid (HK.out.setCell (p := ⟨g3 + 1, s, none⟩) (by have := HG3.out; show w3.heap.size ≤ g3 + 1; omega) (.bool true))
            clear x0 x1 HQ HX HW HK
            generalize wq.setCell ⟨g3 + 1, s, none⟩ (.bool true) = wr at *
            have hsz : w3.heap.size ≤ wr.heap.size := HK2.out.size
            have hown := HW2.out.2
            obtain ⟨hi, hz0, hz1, hz2⟩ := HI.out
            go_upto_block 0 with (at_builtin; refine wpList_append_own _ rfl _ _ 35 rfl g3 3 i0 (.int .i64 0) 1 8 Try.underlying35 hi hz0 hz1 hz2 rfl (by decide) _ _ _ rfl (hown.alloc _) ⟨wr.heap.size, 0, none⟩ 1 1 [.int .i64 (s : Int)] rfl rfl (newsOf wr [.int .i64 (s : Int)] 3) (by simp [Value.oneCell']) (by unfold maxLen; simp) (by simp) (by have := HG3.out; simp; omega) ?_; intro v5 w5 hown5 hgrow5 _)
            obtain ⟨p1, p2, p3, p4⟩ := pushed (u := s) (by have := HG3.out; omega) HW2.out HQ2.out HX2.out HK2.out (by simpa using hown5) hgrow5
            have HL0 : Hid (LW w3 fs n s g3 (g3 + 1) v5 w5) := Lib.hid (LW_start hv (by rw [← HG3.out]; exact p1) p2 p3 p4)
            clear p1 p2 p3 p4 hown hown5 hgrow5 HX2 HQ2 HW2 HK2 hsz hi hz0 hz1 hz2
            refine loopW w3 w5 fs n s b off c g3 (g3 + 1) v5 _ HA.out.files HFit.out (by omega) (by have := HG3.out; omega) (by have := HG3.out; omega) HL0.out ?_
            clear HL0
            intro k12 k13 k14 k15 k73 k74 k75 k76 k77 k78 k79 k80 k81 k82 k83 k84 k85 k86 k87 k88 k89 k90 k91 k92 k93 k94 k95 k96 k97 k98 k99 k100 k101 k102 k103 k104 k105 k106 k107 k108 k109 k110 k111 k112 k113 k114 k115 k116 k117 k118 k119 k120 k121 k122 k123 k124 k125 k126 k127 k128 k129 k130 w6 hE
            obtain ⟨Rr, hRr, hQ6, hK6⟩ := hE
            have HRR := Lib.hid hRr
            have HQ6 := Lib.hid hQ6
            have HK6 := Lib.hid hK6
            clear hRr hQ6 hK6
            have HL17 := Lib.hid (L17.start (xs := exF fs s) HQ6.out HK6.out)
            have HOB : Hid (w3.heap.size ≤ w6.heap.size) := Lib.hid HK6.out.size
            have hmm : (Instr.makeMap 41 none).run Try.prog w6 = .ok (.map (some w6.heap.size)) (w6.alloc (.map #[] 0)) := rfl
            clear HQ6 HK6
            go_upto_region 30 with fail
            clear hmm
            generalize w6.alloc (.map #[] 0) = w7 at *
            generalize w6.heap.size = ob at *
            as_aux_lemma =>
              go_wp2_with fail
              go_loopw [17] (fun t17 W => L17 w3 n g3 ob Rr (exF fs s) t17 W) (fun t17 _ => (exF fs s).length - (intOf t17).toNat)
              case atStart => exact HL17.out
              case round =>
                obtain ⟨j, no, hj, rfl, hM, hQ, hK⟩ := hrel
                have HM := Lib.hid hM
                have HQ := Lib.hid hQ
                have HK := Lib.hid hK
                clear hM hQ hK HL17
                obtain ⟨_, c1, _, hr, _⟩ := HA.out.files s hv
                have x1 := HK.out.cell c1
                have hex := HA.out.fit.ex hv
                have hlx : (fs.getD s default).ex.length = (exF fs s).length := rfl
                rw [hlx] at x1 hr
                have HR := Lib.hid (hr.kept HK.out)
                clear c1 hr hlx
                by_cases hlt : j < (exF fs s).length
                · have hrow : Row wr (fs.getD s default).a (exF fs s).length (fs.getD s default).c ((exF fs s).map Value.string) := HR.out
                  obtain ⟨b2, o2, e2, _, x2⟩ := hrow.at_ ByteArray.empty hlt
                  rw [e2] at x1
                  have hmem : (exF fs s).getD j ByteArray.empty ∈ exF fs s := by
                    rw [List.getD_eq_getElem?_getD, List.getElem?_eq_getElem hlt]; exact List.getElem_mem _
                  have HKL := Lib.hid (WideMaps.keyOf_string_mk (P := Try.prog) Try.underlying9 (HA.out.str s hv _ hmem))
                  have j2 : (j : Int) < ((exF fs s).length : Int) := by omega
                  have HNX : Hid (∀ ob2 m, mapf.MapF Try.prog 9 (setBlock wr ob ob2) ob m (mapf.put (setV fun x => ∃ i, i < j ∧ (exF fs s).getD i ByteArray.empty = x) (.string ((exF fs s).getD j ByteArray.empty)) (.bool true)) → L17 w3 n g3 ob Rr (exF fs s) (.int .i64 ((j : Int) + 1)) (setBlock wr ob ob2)) := Lib.hid (fun ob2 m hm => by
                    rw [setV_put, own_succ] at hm
                    exact ⟨j + 1, _, hlt, by go_num, hm, (sb_other wr ob ob2 (blk_ne HQ.out HM.out)).trans HQ.out, kept_setBlock HK.out HOB.out ob2⟩)
                  generalize (exF fs s).getD j ByteArray.empty = xa at *
                  generalize (fs.getD s default).c = cx at *
                  obtain ⟨m, hm⟩ : ∃ m, m = (exF fs s).length := ⟨_, rfl⟩
                  rw [← hm] at x1 j2
                  clear hrow hmem HR e2
                  go_wp2_with (at_mapUpdate; refine mapf.wpList_put rfl _ _ _ 41 rfl K9 Try.underlying41 ob no _ rfl HM.out (.string xa) _ rfl HKL.out (.bool true) rfl ?_; intro w8 hob hm8; obtain ⟨ob2, rfl⟩ := hob; have HNX2 := Lib.hid (HNX.out ob2 _ hm8); clear hm8 HNX)
                  go_roundw
                  case rel => exact HNX2.out
                  case measure => simp [intOf]; omega
                · obtain rfl : j = (exF fs s).length := by omega
                  have hown : mapf.MapF Try.prog 9 wr ob no (setV (exNE fs s)) := by rw [← own_all]; exact HM.out
                  have HOLT := Lib.hid HM.out.lt
                  have HL20 := Lib.hid (L20.start (ρ := ρ) HK.out hown HQ.out)
                  have HSB : Hid (w3.heap.size ≤ wr.heap.size) := Lib.hid HK.out.size
                  have hmm : (Instr.makeMap 41 none).run Try.prog wr = .ok (.map (some wr.heap.size)) (wr.alloc (.map #[] 0)) := rfl
                  clear hown HR HM HQ HK
                  generalize (exF fs s).length = ml at *
                  go_upto_region 35 with fail
                  clear hmm x1
                  have HOS : Hid (ob ≠ wr.heap.size) := Lib.hid (by have := HOLT.out; omega)
                  generalize wr.alloc (.map #[] 0) = w9 at *
                  generalize wr.heap.size = sb at *
                  as_aux_lemma =>
                    go_wp2_with fail
                    go_loopw [19, 20] (fun t19 t20 W => L20 w3 fs n s ρ g3 ob sb no Rr t19 t20 W) (fun _ t20 _ => n - (intOf t20).toNat)
                    case atStart => exact HL20.out
                    case round =>
                      obtain ⟨v, hv2, rfl, ns, S, dl, rfl, hC⟩ := hrel
                      have HC := Lib.hid hC
                      clear hC HL20
                      by_cases hlt : v < n
                      · have q0 := HC.out.bools.cell hlt
                        cases hR : Rr v with
                        | false =>
                          rw [hR] at q0
                          have HNX : Hid (L20 w3 fs n s ρ g3 ob sb no Rr (.int .i64 (dl.length : Int)) (.int .i64 ((v : Int) + 1)) wr) := Lib.hid ⟨v + 1, hlt, by go_num, ns, S, dl, rfl, HC.out.skip hR⟩
                          clear hR
                          go_wp2_with fail
                          go_roundw
                          case rel => exact HNX.out
                          case measure => simp [intOf]; omega
                        | true =>
                          rw [hR] at q0
                          have HRV := Lib.hid hR
                          have HJ : Hid (MJ w3 fs n s ρ g3 ob sb no Rr v (.int .i64 (dl.length : Int)) (.int .i64 0) wr) := Lib.hid ⟨0, ns, S, dl, Nat.zero_le _, rfl, rfl, HC.out⟩
                          clear hR
                          go_upto_block 8 with fail
                          refine loopJ w3 wr fs n s b off c rb RES (RES + 1) g3 ob sb no v dl.length J IB V ρ R β bn Rr _ HA.out HRR.out HSB.out HOS.out hlt HRV.out HJ.out ?_
                          clear HJ q0
                          intro k4 k21 k22 k23 k24 k25 k26 k27 k28 k29 k30 k31 k162 k163 k164 k165 k166 k167 k168 k169 k170 k171 k172 k173 k174 k175 k176 k177 k178 k179 k180 k181 k182 k183 k184 k185 k186 k187 k188 k189 k190 k191 k192 k193 k194 k195 k196 k197 k198 k199 k200 k201 k202 k203 k204 k205 k206 k207 k208 k209 k210 k211 k212 k213 k214 k215 k216 k217 k218 k219 k220 k221 k222 k223 k224 k225 k226 k227 k228 k229 k230 k231 k232 k233 k234 k235 k236 k237 k238 k239 k240 k241 k242 k243 k244 k245 k246 k247 k248 k249 k250 k251 k252 k253 k254 k255 k256 k257 k258 k259 k260 k261 k262 k263 k264 k265 k266 k267 k268 k269 k270 k271 k272 k273 k274 k275 k276 k277 k278 k279 k280 k281 k282 k283 k284 k285 k286 k287 k288 k289 k290 k291 k292 k293 k294 k295 k296 k297 k298 k299 k300 k301 k302 k303 k304 k305 k306 k307 k308 k309 k310 k311 k312 k313 k314 kt19 w10 hMV
                          have HNX : Hid (L20 w3 fs n s ρ g3 ob sb no Rr kt19 (.int .i64 ((v : Int) + 1)) w10) := Lib.hid ⟨v + 1, hlt, by go_num, hMV⟩
                          clear hMV
                          go_wp2_with fail
                          go_roundw
                          case rel => exact HNX.out
                          case measure => simp [intOf]; omega
                      · obtain rfl : v = n := by omega
                        obtain ⟨hcn, hR4⟩ := counted HA.out HRR.out HC.out
                        rw [hcn]
                        have HKW := Lib.hid HC.out.kept
                        have hlen := fun ty => mapF_len (HA.out.res.kept HKW.out) Try.underlying32 ty
                        have HSUM := Lib.hid HA.out.sum
                        clear hcn HC
                        go_wp2_with fail
                        clear hlen
                        go_loopw [32, 33] (fun t32 t33 W => L33 wr v bn t32 t33 W) (fun _ t33 _ => v - (intOf t33).toNat)
                        case atStart => exact ⟨0, 0, Nat.zero_le _, rfl, rfl, Lib.hid rfl, rfl⟩
                        case round =>
                          obtain ⟨k, x, hk, rfl, rfl, HX, rfl⟩ := hrel
                          have hxle := sum_part bn hk
                          rw [← HX.out, HSUM.out] at hxle
                          by_cases hlt2 : k < v
                          · have y0 := HKW.out.cell (HA.out.repr k hlt2)
                            have y1 := HKW.out.cell (HA.out.bind k hlt2)
                            have hlen := fun ty => mapF_len ((HA.out.bnd k hlt2).kept HKW.out) Try.underlying56 ty
                            have hx2 := sum_part bn (show k + 1 ≤ v by omega)
                            rw [sum_succ, ← HX.out, HSUM.out] at hx2
                            have HX2 : Hid (x + bn k = ((List.range (k + 1)).map bn).sum) := Lib.hid (by rw [sum_succ, ← HX.out])
                            generalize bn k = bk at *
                            generalize J k = jk at *
                            generalize IB k = ik at *
                            go_wp2_with fail
                            go_roundw
                            case rel => exact ⟨k + 1, x + bk, hlt2, by go_num, by go_num, HX2, rfl⟩
                            case measure => simp [intOf]; omega
                          · obtain rfl : k = v := by omega
                            obtain rfl : x = R := by rw [HX.out, HSUM.out]
                            go_wp2_with fail
                            go_ret
                            exact ⟨rfl, HK03.out.trans HKW.out⟩
      · have hd : decide (s0 < (n : Int)) = false := by simpa using hsn
        go_wp2_with fail
        go_ret
        exact ⟨rfl, Kept.refl _⟩
end Go.Proofs.Ytknmcbhcbomjmaa.xs
