/-
  The walk of markFileLiveForTreeShaking over this seat's program: it marks what is reached.
  Conditions: the files lie in memory as MemL says.
-/
import Derived.Test.YtgnccfofhcbjjaaLm
namespace Go.Proofs.Ytgnccfofhcbjjaa.lk
open Go.ChangeShapes Go.WideShapes Go.ChangeAt Go.RowKit
open kit dfs dst

theorem has (w : World) (b : Bool) : Calls Try.prog 28 #[.int .u16 (extv b), .int .u16 1024] w fun x w' => x = .returned (.bool b) ∧ w = w' := by
  have hv : bits .and .u16 (extv b) 1024 = extv b := by cases b <;> decide
  have h2 : (extv b != 0) = b := by cases b <;> decide
  generalize extv b = e at *
  go_enter Try.func28, Try.ntmps28
  go_wp2_with fail
  go_ret
  exact ⟨rfl, rfl⟩
theorem ixb2 {c : Int} {n : Nat} (h : c < (n : Int)) (hn : n ≤ 18724) : (ixv c == 0) = !decide (0 ≤ c) := by
  unfold ixv
  by_cases h0 : 0 ≤ c
  · rw [if_pos h0]; simp [h0]; omega
  · rw [if_neg h0]; simp [h0]
def MarkedL (w : World) (cb LB ob : Nat) (F : Ct) (g : Bool) (J EB PB : Nat → Nat) (v : Nd) (d : Nd → Bool) (x : Ending) (w' : World) : Prop :=
  x = .returned (.tuple #[]) ∧ ∃ d2, Dfs (succ F g) v d d2 ∧ MemL w' cb LB ob F g J EB PB d2 ∧ Turn w w' (LBk F.length LB PB)
def MarkL (w : World) (cb LB ob : Nat) (F : Ct) (g : Bool) (J EB PB : Nat → Nat) (d : Nd → Bool) : Nd → Prop
  | .inl f => Calls Try.prog 23 #[.pointer (some ⟨cb, 0, none⟩), .int .u32 (f : Int)] w (MarkedL w cb LB ob F g J EB PB (.inl f) d)
  | .inr (f, p) => Calls Try.prog 30 #[.pointer (some ⟨cb, 0, none⟩), .int .u32 (f : Int), .int .u32 (p : Int)] w (MarkedL w cb LB ob F g J EB PB (.inr (f, p)) d)
section
variable (w : World) (cb LB ob : Nat) (F : Ct) (g : Bool) (J EB PB : Nat → Nat) (d : Nd → Bool)
set_option maxRecDepth 100000 in
set_option maxHeartbeats 4000000 in
theorem fileDone (f : Nat) (h : MemL w cb LB ob F g J EB PB d) (hf : f < F.length) (hd : d (.inl f) = true) : MarkL w cb LB ob F g J EB PB d (.inl f) := by
  have c1 := h.ctxc.1
  obtain ⟨_, _, _, c2, _⟩ := h.file hf
  rw [hd] at c2
  have hn := h.fit.top
  have i0 : (0 : Int) ≤ (f : Int) := by omega
  have i1 : (f : Int) < (F.length : Int) := by omega
  have HM := Lib.hid h
  have HD := Lib.hid hd
  clear h hd
  unfold MarkL
  go_enter Try.func23, Try.ntmps23
  go_wp2_with fail
  go_end0
  exact ⟨rfl, d, Dfs.done HD.out, HM.out, Turn.refl _ _⟩
set_option maxRecDepth 100000 in
set_option maxHeartbeats 4000000 in
theorem partDone (f p : Nat) (h : MemL w cb LB ob F g J EB PB d) (hf : f < F.length) (hp : p < np F f) (hd : d (.inr (f, p)) = true) : MarkL w cb LB ob F g J EB PB d (.inr (f, p)) := by
  have c1 := h.ctxc.1
  obtain ⟨c2, _, _, _, _⟩ := h.file hf
  obtain ⟨c4, _, _⟩ := h.part hf hp
  obtain ⟨rb, hrb⟩ := h.jsAll hf
  have c3 := (hrb w (Turn.refl _ _)).2.2.1
  rw [hd] at c4
  have hn := h.fit.top
  have hm : np F f ≤ 262144 := (h.fit.lens f hf).2.1
  have i0 : (0 : Int) ≤ (f : Int) := by omega
  have i1 : (f : Int) < (F.length : Int) := by omega
  have i2 : (0 : Int) ≤ (p : Int) := by omega
  have i3 : (p : Int) < (np F f : Int) := by omega
  have tb : ∀ W : World, (Instr.typeAssert (.iface 132 (.pointer (some ⟨J f, 0, none⟩))) 39 132 false).run Try.prog W = .ok (.pointer (some ⟨J f, 0, none⟩)) W := fun W => by kernel_rfl
  have HM := Lib.hid h
  have HD := Lib.hid hd
  clear h hd hrb
  unfold MarkL
  go_enter Try.func30, Try.ntmps30
  go_wp2_with fail
  go_end0
  exact ⟨rfl, d, Dfs.done HD.out, HM.out, Turn.refl _ _⟩

/-- what lies in memory behind the nodes ts -/
def LpW (v : Nd) (ts : List Nd) (W : World) : Prop := ∃ d2, dfs.Lp (succ F g) v ts d d2 ∧ MemL W cb LB ob F g J EB PB d2 ∧ Turn w W (LBk F.length LB PB)
variable {w cb LB ob F g J EB PB d} in
theorem LpW.kept {v : Nd} {ts : List Nd} {W W2 : World} (h : LpW w cb LB ob F g J EB PB d v ts W) (kk : Kept W W2) : LpW w cb LB ob F g J EB PB d v ts W2 := by
  obtain ⟨d2, h1, h2, h3⟩ := h
  exact ⟨d2, h1, h2.kept kk, h3.kept kk⟩
def AtJ (f : Nat) (t57 : Value) (W : World) : Prop := ∃ j : Nat, j ≤ np F f ∧ t57 = .int .i64 (j : Int) ∧ LpW w cb LB ob F g J EB PB d (.inl f) (cssSucc (fl F f).css ++ partsSucc F g f j) W
def AtK (f j ib bx : Nat) (t67 t8 : Value) (W : World) : Prop := ∃ q : Nat, q ≤ (pp F f j).recs.length ∧ t67 = .int .i64 (q : Int) ∧ t8 = .bool ((pp F f j).rem && !keepQ F g f j q) ∧
  LpW w cb LB ob F g J EB PB d (.inl f) (cssSucc (fl F f).css ++ partsSucc F g f j ++ recAdds F g f j q) W ∧ Blk W ib 23 (natCells (pp F f j).recs) ∧ W.cell? ⟨bx, 9, none⟩ = some (.bool (pp F f j).force)
def AtQ (f p : Nat) (t46 : Value) (W : World) : Prop := ∃ k : Nat, k ≤ (pp F f p).deps.length ∧ t46 = .int .i64 (k : Int) ∧ LpW w cb LB ob F g J EB PB d (.inr (f, p)) (.inl f :: ((pp F f p).deps.take k).map .inr) W

set_option maxRecDepth 100000 in
set_option maxHeartbeats 16000000 in
theorem fileS (f : Nat) (h : MemL w cb LB ob F g J EB PB d) (hf : f < F.length) (hd : d (.inl f) = false)
    (ih : ∀ (W : World) (d2 : Nd → Bool) (t : Nd), (∀ x, d x = true → d2 x = true) → d2 (.inl f) = true → In F t → MemL W cb LB ob F g J EB PB d2 → MarkL W cb LB ob F g J EB PB d2 t) : MarkL w cb LB ob F g J EB PB d (.inl f) := by
  have HIH : Hid (∀ (W : World) (d2 : Nd → Bool) (ts : List Nd) (c : Nat), dfs.Lp (succ F g) (.inl f) ts d d2 → MemL W cb LB ob F g J EB PB d2 → Turn w W (LBk F.length LB PB) → c < F.length → (.inl c : Nd) ∈ succ F g (.inl f) →
      Calls Try.prog 23 #[.pointer (some ⟨cb, 0, none⟩), .int .u32 (c : Int)] W fun x w' => x = .returned (.tuple #[]) ∧ LpW w cb LB ob F g J EB PB d (.inl f) (ts ++ [.inl c]) w' ∧ Turn W w' (LBk F.length LB PB)) := Lib.hid (fun W d2 ts c hL hM hT hc hca => by
    have := ih W d2 (.inl c) hL.mono hL.hit hc hM
    unfold MarkL at this
    refine this.mono ?_
    rintro x w' ⟨rfl, d3, h3, hM3, hT3⟩
    exact ⟨rfl, ⟨d3, hL.step hca h3, hM3, hT.trans hT3⟩, hT3⟩)
  have HIP : Hid (∀ (W : World) (d2 : Nd → Bool) (ts : List Nd) (p : Nat), dfs.Lp (succ F g) (.inl f) ts d d2 → MemL W cb LB ob F g J EB PB d2 → Turn w W (LBk F.length LB PB) → p < np F f → (.inr (f, p) : Nd) ∈ succ F g (.inl f) →
      Calls Try.prog 30 #[.pointer (some ⟨cb, 0, none⟩), .int .u32 (f : Int), .int .u32 (p : Int)] W fun x w' => x = .returned (.tuple #[]) ∧ LpW w cb LB ob F g J EB PB d (.inl f) (ts ++ [.inr (f, p)]) w') := Lib.hid (fun W d2 ts p hL hM hT hc hca => by
    have := ih W d2 (.inr (f, p)) hL.mono hL.hit ⟨hf, hc⟩ hM
    unfold MarkL at this
    refine this.mono ?_
    rintro x w' ⟨rfl, d3, h3, hM3, hT3⟩
    exact ⟨rfl, d3, hL.step hca h3, hM3, hT.trans hT3⟩)
  have HFIN : Hid (∀ W, LpW w cb LB ob F g J EB PB d (.inl f) (cssSucc (fl F f).css ++ partsSucc F g f (np F f)) W → MarkedL w cb LB ob F g J EB PB (.inl f) d (.returned (.tuple #[])) W) := Lib.hid (fun W hW => by
    obtain ⟨d2, h1, h2, h3⟩ := hW
    exact ⟨rfl, d2, h1.fin (fun t ht => ht), h2, h3⟩)
  obtain ⟨c1, _, _, _⟩ := h.ctxc
  obtain ⟨c2, _, _, c4, c5⟩ := h.file hf
  rw [hd] at c4
  have htop := h.fit.top
  have hnp : np F f ≤ 262144 := (h.fit.lens f hf).2.1
  have hnr : (fl F f).recs.length ≤ 262144 := (h.fit.lens f hf).1
  have HLEN := Lib.hid (h.fit.lens f hf).2.2
  have i0 : (0 : Int) ≤ (f : Int) := by omega
  have i1 : (f : Int) < (F.length : Int) := by omega
  have ta : ∀ W : World, (Instr.typeAssert (.iface 132 (.pointer (some ⟨J f, 0, none⟩))) 39 132 true).run Try.prog W = .ok (.tuple #[.pointer (some ⟨J f, 0, none⟩), .bool true]) W := fun W => by kernel_rfl
  have hmk := h.markF hf
  have HT1 := Lib.hid ((Turn.refl w (LBk F.length LB PB)).set (p := ⟨LB, f * 24 + 23, none⟩) (.inl rfl) (.bool true))
  have HM1 := Lib.hid hmk
  obtain ⟨e2, _, _, _, _⟩ := hmk.file hf
  obtain ⟨rb, hrb⟩ := h.jsAll hf
  have HRB := Lib.hid hrb
  have HOK := Lib.hid (h.fit.ok f hf)
  have a5 := (hrb _ HT1.out).1
  clear h hd ih hmk hrb
  unfold MarkL
  go_enter Try.func23, Try.ntmps23
  go_upto_region 3 with fail
  have HLP1 : Hid (LpW w cb LB ob F g J EB PB d (.inl f) [] (w.setCell ⟨LB, f * 24 + 23, none⟩ (.bool true))) := Lib.hid ⟨_, dfs.Lp.start, HM1.out, HT1.out⟩
  generalize w.setCell ⟨LB, f * 24 + 23, none⟩ (.bool true) = w1 at *
  clear c1 c2 c4 c5 HM1 HT1
  go_wp2_with fail
  obtain ⟨bc, hbc⟩ : ∃ bc, bc = decide (0 ≤ (fl F f).css) := ⟨_, rfl⟩
  refine (valid (ixv (fl F f).css) bc (by rw [hbc]; exact ixb2 HOK.out.css.2 htop) w1).mono ?_
  rintro x w4 ⟨rfl, k4⟩
  have HLP4 : Hid (LpW w cb LB ob F g J EB PB d (.inl f) [] w4) := Lib.hid (HLP1.out.kept k4)
  have b5 := k4.cell a5
  have HBC := Lib.hid hbc
  clear k4 a5 e2 hbc HLP1
  go_upto_if 43 with (fail)
  go_cut [] (fun W => Hid (LpW w cb LB ob F g J EB PB d (.inl f) (cssSucc (fl F f).css) W))
  case first => as_aux_lemma =>
    cases bc
    · have HR : Hid (LpW w cb LB ob F g J EB PB d (.inl f) (cssSucc (fl F f).css) w4) := Lib.hid (by
        have h0 : ¬ 0 ≤ (fl F f).css := by simpa using HBC.out.symm
        unfold cssSucc
        rw [if_neg h0]
        exact HLP4.out)
      clear HBC
      go_wp2_with fail
      go_meet
      exact HR
    · have hc : 0 ≤ (fl F f).css := by simpa using HBC.out.symm
      obtain ⟨c, hcc⟩ := Int.eq_ofNat_of_zero_le hc
      have hlt : c < F.length := by have := HOK.out.css.2; omega
      have HA : Hid (cssSucc (fl F f).css = [.inl c]) := Lib.hid (by unfold cssSucc; rw [if_pos hc, hcc]; rfl)
      have HMEM : Hid ((.inl c : Nd) ∈ succ F g (.inl f)) := Lib.hid (by have := mem_css (g := g) hc; rw [hcc] at this; exact this)
      rw [ixp hc, hcc] at b5
      have et := Lib.hid (show 4294967295 - (4294967295 - (c : Int)) = (c : Int) by omega)
      have HG := Lib.hid (fun W => get (4294967295 - (c : Int)) (by omega) (by omega) W)
      generalize 4294967295 - (c : Int) = fx at *
      clear hcc hc HBC
      go_wp2_with fail
      refine (HG.out _).mono ?_
      rintro e5 w5 ⟨rfl, k5⟩
      obtain ⟨d5, q1, q2, q3⟩ := HLP4.out.kept k5
      have HCC := Lib.hid (HIH.out w5 d5 [] c q1 q2 q3 hlt HMEM.out)
      clear k5 b5 q1 q2 q3
      go_wp2_with fail
      rw [et.out]
      refine HCC.out.mono ?_
      rintro x6 w6 ⟨rfl, hL6, _⟩
      have HL6 : Hid (LpW w cb LB ob F g J EB PB d (.inl f) (cssSucc (fl F f).css) w6) := Lib.hid (by rw [HA.out]; exact hL6)
      clear hL6 HCC
      go_wp2_with fail
      go_meet
      exact HL6
  case rest =>
    obtain ⟨wa, rfl⟩ : ∃ wa : World, wa = wc := ⟨_, rfl⟩
    have HR0 : Hid (AtJ w cb LB ob F g J EB PB d f (.int .i64 0) wa) := Lib.hid ⟨0, Nat.zero_le _, rfl, by rw [show partsSucc F g f 0 = [] from rfl, List.append_nil]; exact hcut.out⟩
    obtain ⟨_, _, _, hT5⟩ := hcut.out
    have a6 := (HRB.out wa hT5).2.2.1
    clear hcut HLP4 b5 HBC hT5
    go_upto_region 9 with fail
    clear a6
    go_loopw [57] (fun t57 W => AtJ w cb LB ob F g J EB PB d f t57 W) (fun t57 _ => np F f - (intOf t57).toNat)
    case atStart => exact HR0.out
    case round =>
      obtain ⟨j, hj, rfl, d2, hL, hM, hTu⟩ := hrel
      have HL2 := Lib.hid hL
      have HM2 := Lib.hid hM
      have HT2 := Lib.hid hTu
      obtain ⟨wo, rfl⟩ : ∃ wo : World, wo = wr := ⟨_, rfl⟩
      clear hL hTu HR0
      by_cases hlt : j < np F f
      · obtain ⟨_, _, ib, db, _, ⟨cs, hl, hr, ho, h2, h8, h9⟩, hib, _⟩ := hM.part hf hlt
        have HIB := Lib.hid hib
        clear hM hib
        have hsz : (Try.prog.info? 83).map (·.size) = some cs.length := by rw [hl]; exact sizeP83
        have k0 : (j : Int) < (np F f : Int) := by omega
        have hRl : (pp F f j).recs.length ≤ 262144 := (HLEN.out j hlt).1
        go_upto_region 11 with (first | (with_reducible refine wpList_load_mid rfl 83 (.tmp 60) rfl (PB f) (j * 11) rfl cs _ hr Try.underlying83 rfl hsz ?_) | (with_reducible refine wpList_store_mid rfl 83 (.tmp 7) (.tmp 61) rfl _ 0 cs.toArray rfl rfl (there_new _ _ _ _ (by simp [hl])) (by simpa using hsz) ho ?_))
        have hbx := boxed wo 83 zP83 cs (by rw [hl]; rfl)
        unfold zP83 at hbx
        generalize (wo.alloc (.cells #[.slice none 0 0, .slice none 0 0, .slice none 0 0, .slice none 0 0, .map none, .map none, .map none, .slice none 0 0, .bool false, .bool false, .bool false] 83)).setCells wo.heap.size 0 cs = w3 at *
        have K3 := Lib.hid hbx.1
        have b2 := hbx.2 2 _ h2
        have b8 := hbx.2 8 _ h8
        have B9 := Lib.hid (hbx.2 9 _ h9)
        clear hbx hl hr ho h2 h8 h9 hsz
        have HNB : Hid (¬ LBk F.length LB PB wo.heap.size) := Lib.hid (by
          rintro (e | ⟨i, hi, e⟩)
          · obtain ⟨_, q, _⟩ := HM2.out.files; have := q.lt; omega
          · obtain ⟨_, q, _⟩ := HM2.out.parts i hi; have := q.lt; omega)
        generalize wo.heap.size = bx at *
        have HK0 : Hid (AtK w cb LB ob F g J EB PB d f j ib bx (.int .i64 0) (.bool (pp F f j).rem) w3) := Lib.hid ⟨0, Nat.zero_le _, rfl, by rw [show keepQ F g f j 0 = false from rfl]; simp, by rw [show recAdds F g f j 0 = [] from rfl, List.append_nil]; exact ⟨d2, HL2.out, HM2.out.kept K3.out, HT2.out.kept K3.out⟩, HIB.out.kept K3.out, B9.out⟩
        clear HL2 HM2 HT2 K3 HIB B9
        go_upto_region 13 with fail
        clear b2 b8
        go_loopw [67, 8] (fun t67 t8 W => AtK w cb LB ob F g J EB PB d f j ib bx t67 t8 W) (fun t67 _ _ => (pp F f j).recs.length - (intOf t67).toNat)
        case atStart => exact HK0.out
        case round =>
          obtain ⟨q, hq, rfl, ht8, ⟨d3, hL, hM, hTu⟩, hib, hb9⟩ := hrel
          have HL3 := Lib.hid hL
          have HM3 := Lib.hid hM
          have HT3 := Lib.hid hTu
          have HIB := Lib.hid hib
          have HB9 := Lib.hid hb9
          obtain ⟨b8, hb8⟩ : ∃ b8, b8 = ((pp F f j).rem && !keepQ F g f j q) := ⟨_, rfl⟩
          rw [← hb8] at ht8
          subst ht8
          have HB8 := Lib.hid hb8
          obtain ⟨wp, rfl⟩ : ∃ wp : World, wp = wr := ⟨_, rfl⟩
          clear hL hTu hib hb9 hb8 HK0
          by_cases hlt2 : q < (pp F f j).recs.length
          · have k1 : (q : Int) < ((pp F f j).recs.length : Int) := by omega
            have hidx : nat (pp F f j).recs q < (fl F f).recs.length := HOK.out.idx j hlt q hlt2
            have a1 : wp.cell? ⟨ib, q, none⟩ = some (.int .u32 (nat (pp F f j).recs q : Int)) := by rw [HIB.out.cell]; exact natCells_at _ hlt2
            obtain ⟨_, a2, _, hrec⟩ := HRB.out wp HT3.out
            obtain ⟨a10, a12, a14⟩ := hrec _ hidx
            have htgt := HOK.out.tgt _ hidx
            have hrr : rcd (fl F f).recs (nat (pp F f j).recs q) = rec_ F f j q := rfl
            rw [hrr] at a10 a12 a14 htgt
            have HMR := Lib.hid (mem_rec (F := F) (g := g) (f := f) (p := j) (q := q) hlt hlt2)
            have HKQ := Lib.hid (keepQ_succ F g f j q)
            have HRA := Lib.hid (recAdds_succ F g f j q)
            have HOO := Lib.hid (show keeps F g (rec_ F f j q) = (decide ((rec_ F f j q).kind = 1) && (if 0 ≤ (rec_ F f j q).tgt then (fl F (rec_ F f j q).tgt.toNat).side || g else !(rec_ F f j q).ext)) from rfl)
            have HAA := Lib.hid (show adds F g (rec_ F f j q) = if keeps F g (rec_ F f j q) = true ∧ 0 ≤ (rec_ F f j q).tgt then [.inl (rec_ F f j q).tgt.toNat] else [] from rfl)
            have HSK : Hid (keeps F g (rec_ F f j q) = false → AtK w cb LB ob F g J EB PB d f j ib bx (.int .i64 ((q + 1 : Nat) : Int)) (.bool b8) wp) := Lib.hid (fun hk => by
              refine ⟨q + 1, by omega, rfl, ?_, ⟨d3, ?_, HM3.out, HT3.out⟩, HIB.out, HB9.out⟩
              · rw [HKQ.out, hk, Bool.or_false, HB8.out]
              · rw [HRA.out, HAA.out, if_neg (by rw [hk]; simp), List.append_nil]; exact HL3.out)
            generalize hR : rec_ F f j q = r at *
            have HRR := Lib.hid hR
            clear hR hrec
            generalize nat (pp F f j).recs q = ix at *
            have j0 : (ix : Int) < ((fl F f).recs.length : Int) := by omega
            clear hM hrr
            by_cases hkd : r.kind = 1
            · have hk1 : ((r.kind : Int) != 1) = false := by simp; omega
              by_cases h0 : 0 ≤ r.tgt
              · obtain ⟨c, hcc⟩ := Int.eq_ofNat_of_zero_le h0
                have hcl : c < F.length := by omega
                rw [hcc, ixp (by omega)] at a10
                have et := Lib.hid (show 4294967295 - (4294967295 - (c : Int)) = (c : Int) by omega)
                have HV := Lib.hid (fun W => valid (4294967295 - (c : Int)) true (by simp; omega) W)
                have HG := Lib.hid (fun W => get (4294967295 - (c : Int)) (by omega) (by omega) W)
                obtain ⟨sv, hsv⟩ : ∃ sv : Int, sv = if (fl F c).side = true then 0 else 1 := ⟨_, rfl⟩
                obtain ⟨g', hg'⟩ : ∃ g', g' = g := ⟨_, rfl⟩
                have hways : (sv = 0 ∧ keeps F g r = true) ∨ (sv = 1 ∧ g' = true ∧ keeps F g r = true) ∨ (sv = 1 ∧ g' = false ∧ keeps F g r = false) := by
                  rw [HOO.out, if_pos h0, hcc, hsv, hg', hkd]
                  show _ ∨ _ ∨ _
                  rw [Int.toNat_natCast]
                  cases (fl F c).side <;> cases g <;> simp
                have HMEM : Hid (keeps F g r = true → (.inl c : Nd) ∈ succ F g (.inl f)) := Lib.hid (fun hk => by
                  have := HMR.out hk h0
                  rw [hcc] at this
                  exact this)
                have HST0 : Hid (keeps F g r = true → ∀ W0 W8, Kept wp W0 → LpW w cb LB ob F g J EB PB d (.inl f) (cssSucc (fl F f).css ++ partsSucc F g f j ++ recAdds F g f j q ++ [.inl c]) W8 → Turn W0 W8 (LBk F.length LB PB) → AtK w cb LB ob F g J EB PB d f j ib bx (.int .i64 ((q + 1 : Nat) : Int)) (.bool false) W8) := Lib.hid (fun hk W0 W8 kk hL8 hT8 => by
                  refine ⟨q + 1, by omega, rfl, ?_, ?_, (HM3.out.kept kk).far (HIB.out.kept kk) (by decide) (by decide) hT8, hT8.cell (kk.cell HB9.out) HNB.out⟩
                  · rw [HKQ.out, hk, Bool.or_true]; simp
                  · rw [HRA.out, HAA.out, if_pos ⟨hk, h0⟩, hcc, ← List.append_assoc]; exact hL8)
                generalize 4294967295 - (c : Int) = fx at *
                have c7' := (HM3.out.file hcl).2.1
                rw [← hsv] at c7'
                have a93' := HM3.out.ctxc.2.2.1
                have c0' := HM3.out.ctxc.2.1
                have c10' := HM3.out.ctxc.1
                rw [← hg'] at a93'
                have cl0 : (0 : Int) ≤ (c : Int) := by omega
                have cl1 : (c : Int) < (F.length : Int) := by omega
                clear hsv hg' hcc h0 hkd htgt a12 HOO HAA HKQ HRA HMR
                go_wp2_with fail
                refine (HV.out wp).mono ?_
                rintro e5 w5 ⟨rfl, k5⟩
                have K5 := Lib.hid k5
                have b10 := k5.cell a10
                clear k5 a10 a14 a1
                go_wp2_with fail
                refine (HG.out w5).mono ?_
                rintro e6 w6 ⟨rfl, k6⟩
                have K6 := Lib.hid (K5.out.trans k6)
                have HM6 := Lib.hid (HM3.out.kept K6.out)
                have HT6 := Lib.hid (HT3.out.kept K6.out)
                have c7 := K6.out.cell c7'
                have a93 := K6.out.cell a93'
                have c0 := K6.out.cell c0'
                have c10 := K6.out.cell c10'
                clear k6 b10 c7' a93' c0' c10' a2 HV HG
                rw [et.out]
                rcases hways with ⟨rfl, hk⟩ | ⟨rfl, rfl, hk⟩ | ⟨rfl, rfl, hk⟩
                · have HCC := Lib.hid (HIH.out w6 d3 _ c HL3.out HM6.out HT6.out hcl (HMEM.out hk))
                  clear HMEM HSK
                  go_wp2_with fail
                  refine HCC.out.mono ?_
                  rintro x8 w8 ⟨rfl, hL8, hT8⟩
                  have HA8 : Hid (AtK w cb LB ob F g J EB PB d f j ib bx (.int .i64 ((q + 1 : Nat) : Int)) (.bool false) w8) := Lib.hid (HST0.out hk w6 w8 K6.out hL8 hT8)
                  clear hL8 hT8 HCC
                  go_wp2_with fail
                  go_roundw
                  case rel => exact HA8.out
                  case measure => simp [intOf]; omega
                · have HCC := Lib.hid (HIH.out w6 d3 _ c HL3.out HM6.out HT6.out hcl (HMEM.out hk))
                  clear HMEM HSK
                  go_wp2_with fail
                  refine HCC.out.mono ?_
                  rintro x8 w8 ⟨rfl, hL8, hT8⟩
                  have HA8 : Hid (AtK w cb LB ob F g J EB PB d f j ib bx (.int .i64 ((q + 1 : Nat) : Int)) (.bool false) w8) := Lib.hid (HST0.out hk w6 w8 K6.out hL8 hT8)
                  clear hL8 hT8 HCC
                  go_wp2_with fail
                  go_roundw
                  case rel => exact HA8.out
                  case measure => simp [intOf]; omega
                · have HA8 := Lib.hid (HSK.out hk)
                  have HA9 : Hid (AtK w cb LB ob F g J EB PB d f j ib bx (.int .i64 ((q + 1 : Nat) : Int)) (.bool b8) w6) := Lib.hid (by
                    obtain ⟨q', h1, h2, h3, h4, h5, h6⟩ := HA8.out
                    exact ⟨q', h1, h2, h3, h4.kept K6.out, h5.kept K6.out, K6.out.cell h6⟩)
                  clear hk HA8 HST0 HSK HMEM
                  go_wp2_with fail
                  go_roundw
                  case rel => exact HA9.out
                  case measure => simp [intOf]; omega
              · have hx0 : ixv r.tgt = 0 := ixn (by omega)
                rw [hx0] at a10
                have hkp : keeps F g r = !r.ext := by rw [HOO.out, if_neg h0, hkd]; simp
                have HV := Lib.hid (fun W => valid 0 false rfl W)
                have HST0 : Hid (r.ext = false → ∀ W8, Kept wp W8 → AtK w cb LB ob F g J EB PB d f j ib bx (.int .i64 ((q + 1 : Nat) : Int)) (.bool false) W8) := Lib.hid (fun he W8 kk => by
                  refine ⟨q + 1, by omega, rfl, ?_, ⟨d3, ?_, HM3.out.kept kk, HT3.out.kept kk⟩, HIB.out.kept kk, kk.cell HB9.out⟩
                  · rw [HKQ.out, hkp, he]; simp
                  · rw [HRA.out, HAA.out, if_neg (fun hh => h0 hh.2), List.append_nil]; exact HL3.out)
                have HSK2 : Hid (r.ext = true → ∀ W8, Kept wp W8 → AtK w cb LB ob F g J EB PB d f j ib bx (.int .i64 ((q + 1 : Nat) : Int)) (.bool b8) W8) := Lib.hid (fun he W8 kk => by
                  obtain ⟨q', h1, h2, h3, h4, h5, h6⟩ := HSK.out (by rw [hkp, he]; rfl)
                  exact ⟨q', h1, h2, h3, h4.kept kk, h5.kept kk, kk.cell h6⟩)
                have HHAS := Lib.hid (fun W => has W r.ext)
                clear hkd h0 htgt hx0 hkp HOO HAA HKQ HRA HMR HSK
                go_wp2_with fail
                refine (HV.out wp).mono ?_
                rintro e5 w5 ⟨rfl, k5⟩
                have K5 := Lib.hid k5
                have b12 := k5.cell a12
                clear k5 a10 a14 a1 a12 a2
                go_wp2_with fail
                refine (HHAS.out w5).mono ?_
                rintro e6 w6 ⟨rfl, rfl⟩
                cases hext : r.ext
                · have HA8 := Lib.hid (HST0.out hext w5 K5.out)
                  clear hext HST0 HSK2 b12 HHAS
                  go_wp2_with fail
                  go_roundw
                  case rel => exact HA8.out
                  case measure => simp [intOf]; omega
                · have HA8 := Lib.hid (HSK2.out hext w5 K5.out)
                  clear hext HST0 HSK2 b12 HHAS
                  go_wp2_with fail
                  go_roundw
                  case rel => exact HA8.out
                  case measure => simp [intOf]; omega
            · have hk1 : ((r.kind : Int) != 1) = true := by simp; omega
              have HS := Lib.hid (HSK.out (by rw [HOO.out]; simp [hkd]))
              clear hkd HSK a10 a12 htgt HL3 HM3 HT3 HIB HB9
              go_wp2_with fail
              go_roundw
              case rel => exact HS.out
              case measure => simp [intOf]; omega
          · obtain rfl : q = (pp F f j).recs.length := by omega
            have HPS := Lib.hid (partsSucc_succ F g f j)
            have HPP := Lib.hid (show partSucc F g f j = recAdds F g f j (pp F f j).recs.length ++ if keepP F g f j = true then [.inr (f, j)] else [] from rfl)
            have hb : b8 = !keepP F g f j := by
              rw [HB8.out]
              unfold keepP
              cases (pp F f j).rem <;> simp
            have HKP := Lib.hid (mem_keep (F := F) (g := g) (f := f) (p := j) hlt)
            obtain ⟨kp, hkp⟩ : ∃ kp, kp = keepP F g f j := ⟨_, rfl⟩
            rw [← hkp] at hb
            have HKK := Lib.hid hkp
            clear hM hkp HB8 HIB
            have b9 := HB9.out
            have c0 := HM3.out.ctxc.2.1
            have c94 := HM3.out.ctxc.2.2.2
            cases kp
            · obtain rfl : b8 = true := hb
              have HA9 : Hid (AtJ w cb LB ob F g J EB PB d f (.int .i64 ((j + 1 : Nat) : Int)) wp) := Lib.hid ⟨j + 1, by omega, rfl, by
                rw [HPS.out, HPP.out, if_neg (by rw [← HKK.out]; simp), List.append_nil, ← List.append_assoc]
                exact ⟨d3, HL3.out, HM3.out, HT3.out⟩⟩
              clear HL3 HM3 HT3
              cases hfo : (pp F f j).force
              all_goals
                rw [hfo] at b9
                clear hfo
                go_wp2_with fail
                go_roundw
                case rel => exact HA9.out
                case measure => simp [intOf]; omega
            · obtain rfl : b8 = false := hb
              have HCC := Lib.hid (HIP.out wp d3 _ j HL3.out HM3.out HT3.out hlt (HKP.out HKK.out.symm))
              have W32 : IntKind.u32.wrap (j : Int) = (j : Int) := by rw [IntKind.wrap_u32]; omega
              clear HL3 HM3 HT3 c0 c94 b9
              go_wp2_with fail
              refine HCC.out.mono ?_
              rintro x8 w8 ⟨rfl, hL8⟩
              have HA9 : Hid (AtJ w cb LB ob F g J EB PB d f (.int .i64 ((j + 1 : Nat) : Int)) w8) := Lib.hid ⟨j + 1, by omega, rfl, by
                rw [HPS.out, HPP.out, if_pos HKK.out.symm, ← List.append_assoc, ← List.append_assoc]
                exact hL8⟩
              clear hL8 HCC
              go_wp2_with fail
              go_roundw
              case rel => exact HA9.out
              case measure => simp [intOf]; omega
      · obtain rfl : j = np F f := by omega
        have HR := Lib.hid (HFIN.out wo ⟨d2, HL2.out, HM2.out, HT2.out⟩)
        clear HL2 HM2 HT2 hM
        go_wp2_with fail
        go_end0
        exact HR.out
end
end Go.Proofs.Ytgnccfofhcbjjaa.lk
