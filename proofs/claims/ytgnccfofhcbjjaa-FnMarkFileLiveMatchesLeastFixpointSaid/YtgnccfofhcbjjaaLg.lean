/-
  The walk of markPartLiveForTreeShaking over this seat's program; every marking; lkB1RunLive.
  Conditions: the files lie in memory as MemL says.
-/
import Derived.Test.YtgnccfofhcbjjaaLf
import Derived.Test.YtgnccfofhcbjjaaLs
namespace Go.Proofs.Ytgnccfofhcbjjaa.lk
open Go.ChangeShapes Go.WideShapes Go.ChangeAt Go.RowKit
open kit dfs dst

section
variable (w : World) (cb LB ob : Nat) (F : Ct) (g : Bool) (J EB PB : Nat → Nat) (d : Nd → Bool)
set_option maxRecDepth 100000 in
set_option maxHeartbeats 8000000 in
theorem partS (f p : Nat) (h : MemL w cb LB ob F g J EB PB d) (hf : f < F.length) (hp : p < np F f) (hd : d (.inr (f, p)) = false)
    (ih : ∀ (W : World) (d2 : Nd → Bool) (t : Nd), (∀ x, d x = true → d2 x = true) → d2 (.inr (f, p)) = true → In F t → MemL W cb LB ob F g J EB PB d2 → MarkL W cb LB ob F g J EB PB d2 t) : MarkL w cb LB ob F g J EB PB d (.inr (f, p)) := by
  have c1 := h.ctxc.1
  obtain ⟨c2, _, _, _, _⟩ := h.file hf
  obtain ⟨c5, f5, _⟩ := h.part hf hp
  rw [hd] at c5
  obtain ⟨rb, hrb⟩ := h.jsAll hf
  have c4 := (hrb w (Turn.refl _ _)).2.2.1
  have hn := h.fit.top
  have hm : np F f ≤ 262144 := (h.fit.lens f hf).2.1
  have hnd : (pp F f p).deps.length ≤ 262144 := ((h.fit.lens f hf).2.2 p hp).2
  have hok := (h.fit.ok f hf).dep p hp
  have i0 : (0 : Int) ≤ (f : Int) := by omega
  have i1 : (f : Int) < (F.length : Int) := by omega
  have i2 : (0 : Int) ≤ (p : Int) := by omega
  have i3 : (p : Int) < (np F f : Int) := by omega
  have tb : ∀ W : World, (Instr.typeAssert (.iface 132 (.pointer (some ⟨J f, 0, none⟩))) 39 132 false).run Try.prog W = .ok (.pointer (some ⟨J f, 0, none⟩)) W := fun W => by kernel_rfl
  have hmk := h.markP hf hp
  have HT0 := Lib.hid ((Turn.refl w (LBk F.length LB PB)).set (p := ⟨PB f, p * 11 + 10, none⟩) (.inr ⟨f, hf, rfl⟩) (.bool true))
  have HM1 := Lib.hid hmk
  have HOK : Hid (∀ k, k < (pp F f p).deps.length → In F (.inr (lk.dep (pp F f p).deps k))) := Lib.hid (fun k hk => hok k hk)
  have HIH := Lib.hid ih
  clear h hd ih hmk hok hrb
  unfold MarkL
  go_enter Try.func30, Try.ntmps30
  go_upto_region 5 with fail
  generalize w.setCell ⟨PB f, p * 11 + 10, none⟩ (.bool true) = w1 at *
  clear c1 c2 c4 c5 f5
  go_wp2_with fail
  have hc := HIH.out w1 (upd d (.inr (f, p)) true) (.inl f) (fun x hx => upd_up hx) (upd_same _ _ _) hf HM1.out
  unfold MarkL at hc
  refine hc.mono ?_
  rintro e w2 ⟨rfl, d2, hD2, hM2, hT2⟩
  obtain ⟨_, _, _, db, g7, _, _, hdb⟩ := hM2.part hf hp
  have HP0 : Hid (AtQ w cb LB ob F g J EB PB d f p (.int .i64 0) w2 ∧ Blk w2 db 150 (depCells (pp F f p).deps)) := Lib.hid ⟨⟨0, Nat.zero_le _, rfl, d2, (dfs.Lp.start.step (List.mem_cons_self ..) hD2), hM2, HT0.out.trans hT2⟩, hdb⟩
  clear hc hD2 hM2 hT2 HM1 HT0 hdb
  go_wp2_with fail
  clear g7
  go_loopw [46] (fun t46 W => AtQ w cb LB ob F g J EB PB d f p t46 W ∧ Blk W db 150 (depCells (pp F f p).deps)) (fun t46 _ => (pp F f p).deps.length - (intOf t46).toNat)
  case atStart => exact HP0.out
  case round =>
    obtain ⟨⟨k, hk, rfl, d3, hL, hM, hT⟩, hb⟩ := hrel
    have HL := Lib.hid hL
    have HT := Lib.hid hT
    have HB := Lib.hid hb
    clear hL hT HP0 hb
    by_cases hlt : k < (pp F f p).deps.length
    · obtain ⟨q1, q2⟩ := depCells_at (pp F f p).deps k hlt
      have HM := Lib.hid hM
      have z1 : wr.cell? ⟨db, k * 2, none⟩ = some (.int .u32 ((lk.dep (pp F f p).deps k).1 : Int)) := by rw [HB.out.cell]; exact q1
      have z2 : wr.cell? ⟨db, k * 2 + 1, none⟩ = some (.int .u32 ((lk.dep (pp F f p).deps k).2 : Int)) := by rw [HB.out.cell]; exact q2
      have hx := HOK.out k hlt
      have HTK : Hid (((pp F f p).deps.take (k + 1)).map (Sum.inr : Nat × Nat → Nd) = ((pp F f p).deps.take k).map .inr ++ [.inr (lk.dep (pp F f p).deps k)]) := Lib.hid (by
        rw [List.take_succ_eq_append_getElem hlt, List.map_append]
        have e : lk.dep (pp F f p).deps k = (pp F f p).deps[k] := by unfold lk.dep; rw [List.getD_eq_getElem?_getD, List.getElem?_eq_getElem hlt]; rfl
        rw [e]; rfl)
      have HIN := Lib.hid (mem_dep (F := F) (g := g) (f := f) (p := p) hlt)
      generalize lk.dep (pp F f p).deps k = x at *
      obtain ⟨x1, x2⟩ := x
      simp only at z1 z2
      have HX : Hid (In F (.inr (x1, x2))) := Lib.hid hx
      have k0 : (k : Int) < ((pp F f p).deps.length : Int) := by omega
      clear hM q1 q2 hx
      go_wp2_with fail
      have hc := HIH.out (wr.alloc (.cells #[.int .u32 (x1 : Int), .int .u32 (x2 : Int)] 150)) d3 (.inr (x1, x2)) HL.out.mono HL.out.hit HX.out (HM.out.kept ((Kept.refl wr).alloc _))
      unfold MarkL at hc
      refine hc.mono ?_
      rintro e w4 ⟨rfl, d4, hD4, hM4, hT4⟩
      have HD4 := Lib.hid hD4
      have HM4 := Lib.hid hM4
      have HT4 := Lib.hid hT4
      have HB4 := Lib.hid ((HM.out.kept ((Kept.refl wr).alloc (.cells #[.int .u32 (x1 : Int), .int .u32 (x2 : Int)] 150))).far (HB.out.alloc _) (by decide) (by decide) hT4)
      clear hc hD4 hM4 hT4 z1 z2
      go_wp2_with fail
      go_roundw
      case rel =>
        refine ⟨⟨k + 1, by omega, by go_num, d4, ?_, HM4.out, (HT.out.kept ((Kept.refl wr).alloc _)).trans HT4.out⟩, HB4.out⟩
        rw [HTK.out, ← List.cons_append]
        exact HL.out.step HIN.out HD4.out
      case measure => simp [intOf]; omega
    · obtain rfl : k = (pp F f p).deps.length := by omega
      rw [List.take_length] at HL
      go_wp2_with fail
      go_end0
      exact ⟨rfl, d3, HL.out.fin (fun t ht => ht), hM, HT.out⟩
end
theorem markAll (cb LB ob : Nat) (F : Ct) (g : Bool) (J EB PB : Nat → Nat) (N : Nat) : ∀ (w : World) (d : Nd → Bool) (v : Nd), free (univ F) d ≤ N → MemL w cb LB ob F g J EB PB d → In F v → MarkL w cb LB ob F g J EB PB d v := by
  induction N with
  | zero =>
    intro w d v hN h hv
    have hd : d v = true := by
      cases e : d v
      · have := free_lt (d := d) (d2 := upd d v true) (fun x hx => upd_up hx) (univ_mem hv) e (upd_same _ _ _)
        omega
      · rfl
    rcases v with f | ⟨f, p⟩
    · exact fileDone w cb LB ob F g J EB PB d f h hv hd
    · exact partDone w cb LB ob F g J EB PB d f p h hv.1 hv.2 hd
  | succ N ih =>
    intro w d v hN h hv
    have next : d v = false → ∀ (W : World) (d2 : Nd → Bool) (t : Nd), (∀ x, d x = true → d2 x = true) → d2 v = true → In F t → MemL W cb LB ob F g J EB PB d2 → MarkL W cb LB ob F g J EB PB d2 t := fun hd W d2 t hm h2 ht hM => by
      refine ih W d2 t ?_ hM ht
      have := free_lt hm (univ_mem hv) hd h2
      omega
    rcases v with f | ⟨f, p⟩
    · cases hd : d (.inl f)
      · exact fileS w cb LB ob F g J EB PB d f h hv hd (next hd)
      · exact fileDone w cb LB ob F g J EB PB d f h hv hd
    · cases hd : d (.inr (f, p))
      · exact partS w cb LB ob F g J EB PB d f p h hv.1 hv.2 hd (next hd)
      · exact partDone w cb LB ob F g J EB PB d f p h hv.1 hv.2 hd
/-- ZZmarkFileLiveForTreeShaking -/
theorem zzLive (cb LB ob : Nat) (F : Ct) (g : Bool) (J EB PB : Nat → Nat) (w : World) (d : Nd → Bool) (f : Nat) (h : MemL w cb LB ob F g J EB PB d) (hf : f < F.length) :
    Calls Try.prog 21 #[.pointer (some ⟨cb, 0, none⟩), .int .u32 (f : Int)] w (MarkedL w cb LB ob F g J EB PB (.inl f) d) := by
  have hc := markAll cb LB ob F g J EB PB _ w d (.inl f) (Nat.le_refl _) h hf
  unfold MarkL at hc
  have HC := Lib.hid hc
  clear h hc
  go_enter Try.func21, Try.ntmps21
  go_wp2_with fail
  refine HC.out.mono ?_
  rintro e w2 ⟨rfl, r⟩
  have HR := Lib.hid r
  clear r
  go_wp2_with fail
  go_end0
  exact ⟨rfl, HR.out⟩
theorem Bd.memL {w0 w W : World} {F : Ct} {g : Bool} {J EB PB : Nat → Nat} {cb ob : Nat} {c1 c2 : List Value} (h : Bd w0 w F false F.length J EB PB) (k : Kept w W) (b1 : Blk W cb 221 c1) (q1 : c1[10]? = some (.slice (some ⟨w0.heap.size, 0, none⟩) F.length F.length)) (q2 : c1[0]? = some (.pointer (some ⟨ob, 0, none⟩)))
    (b2 : Blk W ob 195 c2) (q3 : c2[93]? = some (.bool g)) (q4 : c2[94]? = some (.bool true)) (hf : Fits F) : MemL W cb w0.heap.size ob F g J EB PB (fun _ => false) := by
  have r := h.kept2 k
  obtain ⟨cs, f1, f2, f3⟩ := r.files
  refine ⟨⟨c1, b1, q1, q2⟩, ⟨c2, b2, q3, q4⟩, ⟨cs, f1, f2, fun i hi => ?_⟩, fun i hi => ?_, fun i hi => ?_, fun i l hi hl he => (r.ap i l hi hl).2 he, hf⟩
  · have := f3 i hi
    rw [Bool.false_and] at this
    exact this
  · obtain ⟨⟨_, cs, rb, rcs, h1, h2, h3, h4, _, h5, h6, _, h8⟩, _⟩ := (r.one i hi).1
    exact ⟨cs, rb, rcs, h1, h2, h3, h4, h5, h6, h8⟩
  · obtain ⟨_, _, ps, h7, h8, h9, h10⟩ := (r.one i hi).1
    exact ⟨ps, h7, h8, h9, fun p hp => (h10 p hp).mono (Nat.zero_le _)⟩
theorem Bd.LBlo {w0 w : World} {F : Ct} {u : Bool} {J EB PB : Nat → Nat} (h : Bd w0 w F u F.length J EB PB) : ∀ k, LBk F.length w0.heap.size PB k → w0.heap.size ≤ k := by
  rintro k (e | ⟨i, hi, e⟩)
  · rw [e]; exact Nat.le_refl _
  · obtain ⟨_, l3, _⟩ := (h.one i hi).1; omega
def RanL (w0 : World) (F : Ct) (g : Bool) (s : Nat) (J EB PB : Nat → Nat) (w' : World) : Prop := ∃ cb ob d, (∀ x, d x = true ↔ Rch (succ F g) (.inl s) x) ∧ MemL w' cb w0.heap.size ob F g J EB PB d ∧ (∃ cs, Blk w' (w0.heap.size + 1) 132 cs ∧ ∀ k, k < F.length → cs[k]? = some (.pointer (some ⟨J k, 0, none⟩))) ∧ Kept w0 w'
set_option maxRecDepth 100000 in
set_option maxHeartbeats 4000000 in
theorem runLive (w0 w : World) (F : Ct) (g : Bool) (J EB PB : Nat → Nat) (s : Nat) (hB : Bd w0 w F false F.length J EB PB) (hf : Fits F) (hs : s < F.length) :
    Calls Try.prog 14 #[.slice (some ⟨w0.heap.size, 0, none⟩) F.length F.length, .bool g, .int .u32 (s : Int), .int .u32 0, .bool false] w fun x w' => x = .returned (.tuple #[]) ∧ RanL w0 F g s J EB PB w' := by
  obtain ⟨CS, hCS, h93⟩ : ∃ CS, Try.prog.built 195 [(70, .bool true), (69, .bool g)] = some CS ∧ (CS[93]?, CS[94]?) = (some (.bool g), some (.bool true)) := Option.map_eq_some_iff.1 (by kernel_rfl)
  simp only [Prod.mk.injEq] at h93
  have HCS := Lib.hid hCS
  have H93 := Lib.hid h93
  have HB := Lib.hid hB
  have HF := Lib.hid hf
  clear hCS h93 hB hf
  go_enter Try.func14, Try.ntmps14
  go_wp2_with (refine wpList_build1 rfl 195 _ rfl [(70, .bool true), (69, .bool g)] ?hM1 CS HCS.out ?_)
  have hb1 : Blk (w.alloc (.cells CS 195)) w.heap.size 195 CS.toList := by have := Blk.new w 195 CS.toList; simpa using this
  have HB1 := Lib.hid hb1
  clear hb1
  have HK1 := Lib.hid ((Kept.refl w).alloc (.cells CS 195))
  generalize w.alloc (.cells CS 195) = w1 at *
  generalize w.heap.size = ob at *
  refine (newCtx w1 w0.heap.size F.length ob).mono ?_
  rintro x w2 ⟨cb, c1, rfl, b1, q1, q2, _, k2⟩
  have HM := Lib.hid (HB.out.memL (HK1.out.trans k2) b1 q1 q2 (HB1.out.kept k2) (by simpa using H93.out.1) (by simpa using H93.out.2) HF.out)
  have HK2 := Lib.hid (HK1.out.trans k2)
  clear b1 q1 q2 k2 HB1
  go_wp2_with fail
  refine (zzLive cb w0.heap.size ob F g J EB PB w2 _ s HM.out hs).mono ?_
  rintro x w3 ⟨rfl, d2, h1, h2, h3⟩
  have HR : Hid (RanL w0 F g s J EB PB w3) := Lib.hid (by
    refine ⟨cb, ob, d2, fun x => ?_, h2, ?_, Below.trans (HB.out.kept.trans HK2.out) (h3.below HB.out.LBlo (HB.out.kept.trans HK2.out).size)⟩
    · rw [h1.iff (fun x hx => by cases hx) x]; simp
    · obtain ⟨cs, p1, _, p2⟩ := (HB.out.kept2 HK2.out).reprs
      exact ⟨cs, HM.out.far p1 (by decide) (by decide) h3, p2⟩)
  clear h1 h2 h3
  go_wp2_with fail
  go_end0
  exact ⟨rfl, HR.out⟩
end Go.Proofs.Ytgnccfofhcbjjaa.lk
