/-
  markFileReachableForCodeSplitting at every file, and lkB1RunReach, over this seat's program: what a run leaves in memory.
  Conditions: the files lie in memory as lkB1Build lays them.
-/
import Derived.Test.YtgnccfofhcbjjaaRw
import Derived.Test.YtgnccfofhcbjjaaBw
namespace Go.Proofs.Ytgnccfofhcbjjaa.lk
open Go.ChangeShapes Go.WideShapes Go.ChangeAt Go.RowKit
open kit dfs dst

theorem reach (cb LB ob : Nat) (F : Ct) (J EB PB : Nat → Nat) (b : Nat) (hb : b < 256) (hn : F.length ≤ 256) : ∀ (m : Nat) (w : World) (S : Nat → Bool) (k v : Nat) (d : Nat → Nat) (e : Nat → Nat → Bool), free (List.range F.length) S ≤ m →
    MemR w cb LB ob F J EB PB d e → Pre (liveF F) (adj F) F.length S b k d e → v < F.length → Mark w cb LB ob F J EB PB S b k v d e := by
  intro m
  induction m with
  | zero =>
    intro w S k v d e hm h hp hv
    cases hl : (fl F v).live
    · exact reachDead w cb LB ob F J EB PB S b k v d e h hv hp.clo hl
    · by_cases hd : d v ≤ k ∧ e v b = true
      · exact reachDone w cb LB ob F J EB PB S b k v d e h hv hp.clo hb (by have := hp.cnt; omega) hl hd.1 hd.2
      · have hS : S v = false := hp.fresh (by
          by_cases q : k < d v
          · exact .inl q
          · cases q2 : e v b
            · exact .inr rfl
            · exact absurd ⟨by omega, q2⟩ hd)
        have := free_pos hv hS
        omega
  | succ m ih =>
    intro w S k v d e hm h hp hv
    cases hl : (fl F v).live
    · exact reachDead w cb LB ob F J EB PB S b k v d e h hv hp.clo hl
    · by_cases hd : d v ≤ k ∧ e v b = true
      · exact reachDone w cb LB ob F J EB PB S b k v d e h hv hp.clo hb (by have := hp.cnt; omega) hl hd.1 hd.2
      · have hg : e v b = false ∨ e v b = true ∧ k < d v := by
          cases q2 : e v b
          · exact .inl rfl
          · exact .inr ⟨rfl, by
              apply Classical.byContradiction
              intro q
              exact hd ⟨by omega, q2⟩⟩
        have hS : S v = false := hp.fresh (by rcases hg with hg | ⟨_, hg⟩; exact .inr hg; exact .inl hg)
        have := free_pos hv hS
        exact reachGo w cb LB ob F J EB PB S b k v d e (e v b) rfl h hn hv hb hl hp hg fun W d2 e2 c hp2 hc hM => ih W _ (k + 1) c d2 e2 (by omega) hM hp2 hc
theorem zzReach (w : World) (cb LB ob : Nat) (F : Ct) (J EB PB : Nat → Nat) (b v : Nat) (d : Nat → Nat) (e : Nat → Nat → Bool) (hb : b < 256) (hn : F.length ≤ 256) (h : MemR w cb LB ob F J EB PB d e) (hi : Inv (liveF F) (adj F) d e) (hv : v < F.length) :
    Calls Try.prog 20 #[.pointer (some ⟨cb, 0, none⟩), .int .u32 (v : Int), .int .u64 (b : Int), .int .u32 0] w (Marked w cb LB ob F J EB PB (fun _ => false) b 0 v d e) := by
  have hR := reach cb LB ob F J EB PB b hb hn _ w (fun _ => false) 0 v d e (Nat.le_refl _) h (hi.pre b) hv
  unfold Mark at hR
  have HR := Lib.hid hR
  clear hR h hi
  go_enter Try.func20, Try.ntmps20
  go_wp2_with fail
  refine HR.out.mono ?_
  rintro x w2 hM
  have HM := Lib.hid hM
  obtain ⟨rfl, _⟩ := hM
  go_wp2_with fail
  go_end0
  exact HM.out

/-- what a run leaves to read -/
structure Res (W : World) (LB : Nat) (F : Ct) (EB : Nat → Nat) (d : Nat → Nat) (e : Nat → Nat → Bool) : Prop where
  files : ∃ cs, Blk W LB 60 cs ∧ ∀ i, i < F.length → cs[i * 24]? = some (.slice (some ⟨EB i, 0, none⟩) 32 32) ∧ cs[i * 24 + 20]? = some (.int .u32 (d i : Int)) ∧ cs[i * 24 + 23]? = some (.bool (fl F i).live)
  bits : ∀ i, i < F.length → Blk W (EB i) 5 (bitCells (e i))
theorem Res.kept {W W2 : World} {LB : Nat} {F : Ct} {EB : Nat → Nat} {d : Nat → Nat} {e : Nat → Nat → Bool} (h : Res W LB F EB d e) (k : Kept W W2) : Res W2 LB F EB d e := by
  obtain ⟨cs, h1, h2⟩ := h.files
  exact ⟨⟨cs, h1.kept k, h2⟩, fun i hi => (h.bits i hi).kept k⟩
theorem MemR.res {W : World} {cb LB ob : Nat} {F : Ct} {J EB PB : Nat → Nat} {d : Nat → Nat} {e : Nat → Nat → Bool} (h : MemR W cb LB ob F J EB PB d e) : Res W LB F EB d e := by
  obtain ⟨cs, h1, _, h2⟩ := h.files
  refine ⟨⟨cs, h1, fun i hi => ?_⟩, fun i hi => (h.one i hi).2⟩
  obtain ⟨q1, _, _, q4, _, q6⟩ := h2 i hi
  exact ⟨q1, q4, q6⟩
theorem OneJ.mono {lo : Nat} {W : World} {Jb Pb : Nat} {f : Fil} (h : OneJ lo W Jb Pb f) : OneJ 0 W Jb Pb f := by
  obtain ⟨⟨l1, cs, rb, rcs, h1, h2, h3, h4, l2, h5, h6⟩, l3, ps, h7, h8, h9, h10⟩ := h
  exact ⟨⟨Nat.zero_le _, cs, rb, rcs, h1, h2, h3, h4, Nat.zero_le _, h5, h6⟩, Nat.zero_le _, ps, h7, h8, h9, fun p hp => (h10 p hp).mono (Nat.zero_le _)⟩
theorem Bd.memR {w0 w W : World} {F : Ct} {J EB PB : Nat → Nat} {cb ob : Nat} {c1 c2 : List Value} (h : Bd w0 w F true F.length J EB PB) (k : Kept w W) (b1 : Blk W cb 221 c1) (q1 : c1[10]? = some (.slice (some ⟨w0.heap.size, 0, none⟩) F.length F.length)) (q2 : c1[0]? = some (.pointer (some ⟨ob, 0, none⟩)))
    (b2 : Blk W ob 195 c2) (q3 : c2[79]? = some (.bool true)) (hf : Fits F) : MemR W cb w0.heap.size ob F J EB PB (fun _ => 4294967295) (fun _ _ => false) := by
  have g := h.kept2 k
  obtain ⟨cs, f1, f2, f3⟩ := g.files
  refine ⟨⟨c1, b1, q1, q2⟩, ⟨c2, b2, q3⟩, ⟨cs, f1, f2, fun i hi => ?_⟩, fun i hi => ⟨(g.one i hi).1.mono, (g.one i hi).2.2⟩, fun i l hi hl he => (g.ap i l hi hl).1 he, hf⟩
  have := f3 i hi
  rw [Bool.true_and] at this
  exact this
theorem Bd.RBlo {w0 w : World} {F : Ct} {J EB PB : Nat → Nat} (h : Bd w0 w F true F.length J EB PB) : ∀ k, RB F.length w0.heap.size EB k → w0.heap.size ≤ k := by
  rintro k (e | ⟨i, hi, e⟩)
  · rw [e]; exact Nat.le_refl _
  · have := (h.one i hi).2.1; omega

def RanP (w0 : World) (F : Ct) (EB : Nat → Nat) (R : (Nat → Nat) → (Nat → Nat → Bool) → Prop) (w' : World) : Prop := ∃ d e, R d e ∧ Res w' w0.heap.size F EB d e ∧ Kept w0 w'
set_option maxRecDepth 100000 in
set_option maxHeartbeats 4000000 in
theorem run1 (w0 w : World) (F : Ct) (J EB PB : Nat → Nat) (s b : Nat) (hB : Bd w0 w F true F.length J EB PB) (hf : Fits F) (hn : F.length ≤ 256) (hs : s < F.length) (hb : b < 256) :
    Calls Try.prog 10 #[.slice (some ⟨w0.heap.size, 0, none⟩) F.length F.length, .bool true, .int .u32 (s : Int), .int .u8 (b : Int), .int .u32 0, .int .u8 0, .bool false] w fun x w' => x = .returned (.tuple #[]) ∧ RanP w0 F EB (Run1 (liveF F) (adj F) 4294967295 s b) w' := by
  obtain ⟨CS, hCS, h79⟩ : ∃ CS, Try.prog.built 195 [(55, .bool true)] = some CS ∧ CS[79]? = some (.bool true) := Option.map_eq_some_iff.1 (by kernel_rfl)
  have HCS := Lib.hid hCS
  have H79 := Lib.hid h79
  have HB := Lib.hid hB
  have HF := Lib.hid hf
  have W64 : IntKind.u64.wrap (b : Int) = (b : Int) := by rw [IntKind.wrap_u64]; omega
  clear hCS h79 hB hf
  go_enter Try.func10, Try.ntmps10
  go_wp2_with (refine wpList_build1 rfl 195 _ rfl [(55, .bool true)] ?hM1 CS HCS.out ?_)
  have hb1 : Blk (w.alloc (.cells CS 195)) w.heap.size 195 CS.toList := by have := Blk.new w 195 CS.toList; simpa using this
  have HB1 := Lib.hid hb1
  clear hb1
  have HK1 := Lib.hid ((Kept.refl w).alloc (.cells CS 195))
  generalize w.alloc (.cells CS 195) = w1 at *
  generalize w.heap.size = ob at *
  refine (newCtx w1 w0.heap.size F.length ob).mono ?_
  rintro x w2 ⟨cb, c1, rfl, b1, q1, q2, _, k2⟩
  have HM := Lib.hid (HB.out.memR (HK1.out.trans k2) b1 q1 q2 (HB1.out.kept k2) (by simpa using H79.out) HF.out)
  have HK2 := Lib.hid (HK1.out.trans k2)
  clear b1 q1 q2 k2 HB1
  go_wp2_with fail
  refine (zzReach w2 cb w0.heap.size ob F J EB PB b s _ _ hb hn HM.out (Inv.zero _ _ _) hs).mono ?_
  rintro x w3 ⟨rfl, d2, e2, h1, h2, h3⟩
  have HR : Hid (RanP w0 F EB (Run1 (liveF F) (adj F) 4294967295 s b) w3) := Lib.hid ⟨d2, e2, h1, h2.res, Below.trans (HB.out.kept.trans HK2.out) (h3.below HB.out.RBlo (HB.out.kept.trans HK2.out).size)⟩
  clear h1 h2 h3
  go_wp2_with fail
  go_end0
  exact ⟨rfl, HR.out⟩
set_option maxRecDepth 100000 in
set_option maxHeartbeats 4000000 in
theorem run2 (w0 w : World) (F : Ct) (J EB PB : Nat → Nat) (s b t c : Nat) (hB : Bd w0 w F true F.length J EB PB) (hf : Fits F) (hn : F.length ≤ 256) (hs : s < F.length) (hb : b < 256) (ht : t < F.length) (hc : c < 256) :
    Calls Try.prog 10 #[.slice (some ⟨w0.heap.size, 0, none⟩) F.length F.length, .bool true, .int .u32 (s : Int), .int .u8 (b : Int), .int .u32 (t : Int), .int .u8 (c : Int), .bool true] w fun x w' => x = .returned (.tuple #[]) ∧ RanP w0 F EB (Run2 (liveF F) (adj F) 4294967295 s b t c) w' := by
  obtain ⟨CS, hCS, h79⟩ : ∃ CS, Try.prog.built 195 [(55, .bool true)] = some CS ∧ CS[79]? = some (.bool true) := Option.map_eq_some_iff.1 (by kernel_rfl)
  have HCS := Lib.hid hCS
  have H79 := Lib.hid h79
  have HB := Lib.hid hB
  have HF := Lib.hid hf
  have W64 : IntKind.u64.wrap (b : Int) = (b : Int) := by rw [IntKind.wrap_u64]; omega
  have W64c : IntKind.u64.wrap (c : Int) = (c : Int) := by rw [IntKind.wrap_u64]; omega
  clear hCS h79 hB hf
  go_enter Try.func10, Try.ntmps10
  go_wp2_with (refine wpList_build1 rfl 195 _ rfl [(55, .bool true)] ?hM1 CS HCS.out ?_)
  have hb1 : Blk (w.alloc (.cells CS 195)) w.heap.size 195 CS.toList := by have := Blk.new w 195 CS.toList; simpa using this
  have HB1 := Lib.hid hb1
  clear hb1
  have HK1 := Lib.hid ((Kept.refl w).alloc (.cells CS 195))
  generalize w.alloc (.cells CS 195) = w1 at *
  generalize w.heap.size = ob at *
  refine (newCtx w1 w0.heap.size F.length ob).mono ?_
  rintro x w2 ⟨cb, c1, rfl, b1, q1, q2, _, k2⟩
  have HM := Lib.hid (HB.out.memR (HK1.out.trans k2) b1 q1 q2 (HB1.out.kept k2) (by simpa using H79.out) HF.out)
  have HK2 := Lib.hid (HK1.out.trans k2)
  clear b1 q1 q2 k2 HB1
  go_wp2_with fail
  refine (zzReach w2 cb w0.heap.size ob F J EB PB b s _ _ hb hn HM.out (Inv.zero _ _ _) hs).mono ?_
  rintro x w3 ⟨rfl, d2, e2, h1, h2, h3⟩
  have HM3 := Lib.hid h2
  have H1 := Lib.hid h1
  have HT := Lib.hid h3
  clear h1 h2 h3
  go_wp2_with fail
  refine (zzReach w3 cb w0.heap.size ob F J EB PB c t _ _ hc hn HM3.out (H1.out.inv (Inv.zero _ _ _)) ht).mono ?_
  rintro x w4 ⟨rfl, d4, e4, g1, g2, g3⟩
  have HR : Hid (RanP w0 F EB (Run2 (liveF F) (adj F) 4294967295 s b t c) w4) := Lib.hid ⟨d4, e4, ⟨d2, e2, H1.out, g1⟩, g2.res, Below.trans (HB.out.kept.trans HK2.out) ((HT.out.trans g3).below HB.out.RBlo (HB.out.kept.trans HK2.out).size)⟩
  clear g1 g2 g3
  go_wp2_with fail
  go_end0
  exact ⟨rfl, HR.out⟩
end Go.Proofs.Ytgnccfofhcbjjaa.lk
