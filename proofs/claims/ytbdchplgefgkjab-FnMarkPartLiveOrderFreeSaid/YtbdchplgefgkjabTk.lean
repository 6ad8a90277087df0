/-
  The walk of tsClosure over this seat's program.
  Conditions: the files are readable and fit; the marks lie in rows of their own.
-/
import Derived.Test.YtbdchplgefgkjabTe
import Derived.Test.YtbdchplgefgkjabTr
namespace Go.Proofs.Ytbdchplgefgkjab.tm
open Go.ChangeShapes Go.WideShapes Go.ChangeAt Go.RowKit
open kit dfs

theorem info25 : (Try.prog.info? 25).map (fun i => (i.zero, i.size, i.bytes)) = some (some (.agg #[.int .u32 0, .int .u32 0]), 2, 8) := by kernel_rfl
def dc (v : Nat × Nat) : List Value := [.int .u32 (v.1 : Int), .int .u32 (v.2 : Int)]
def lenOf : Value → Nat
  | .slice _ n _ => n
  | _ => 0
def bof : Option Value → Bool
  | some (.bool b) => b
  | _ => false
def Rof (W : World) (q1 : Nat) (G : Nat → Nat) : Nd → Bool
  | .inl f => bof (W.cell? ⟨q1, f, none⟩)
  | .inr (f, p) => bof (W.cell? ⟨G f, p, none⟩)
theorem Marks.wt {w : World} {q1 q2 n : Nat} {G : Nat → Nat} {F : Ct} {R : Nd → Bool} (h : Marks w q1 q2 n G F R) : tm.wt F (Rof w q1 G) n = tm.wt F R n :=
  wt_congr (fun f hf => by show bof _ = _; rw [(h.cellF hf).1]; rfl) (fun f p hf hp => by show bof _ = _; rw [(h.cellP hf hp).1]; rfl)
theorem rch_in {n : Nat} {F : Ct} (h : Fits n F) {s : Nat × Nat} (hs : In n F (.inr s)) {x : Nd} (g : Rch (succ F) (.inr s) x) : In n F x := by
  induction g with
  | start => exact hs
  | @step u t _ ht ih =>
    rcases u with f | ⟨f, p⟩
    · obtain ⟨p, hp, rfl⟩ := List.mem_map.1 ht
      exact ⟨ih, List.mem_range.1 (List.mem_filter.1 hp).1⟩
    · rcases List.mem_cons.1 ht with c | c
      · rw [c]; exact ih.1
      · obtain ⟨v, hv, rfl⟩ := List.mem_map.1 c
        exact h.ok f ih.1 p ih.2 v hv

def ClosureP (w : World) (q1 q2 n : Nat) (G : Nat → Nat) (F : Ct) (R0 : Nd → Bool) (s : Nat × Nat) (e : Ending) (w' : World) : Prop :=
  e = .returned (.tuple #[]) ∧ (∃ R, Marks w' q1 q2 n G F R ∧ (∀ x, R x = true ↔ R0 x = true ∨ Rch (succ F) (.inr s) x) ∧ ∀ x, R x = true → ∀ t ∈ succ F x, R t = true) ∧ Turn w w' (GB q1 n G)
def A10 (w : World) (q1 q2 n : Nat) (G : Nat → Nat) (F : Ct) (R0 : Nd → Bool) (s : Nat × Nat) (Q : Nd → Nd → Prop) (M x : Nat) (t8 : Value) (W : World) : Prop :=
  ∃ R wk, Wl F R0 s Q R wk ∧ Wk W w.heap.size 25 2 dc t8 wk ∧ Marks W q1 q2 n G F R ∧ Turn w W (GB q1 n G) ∧ tm.wt F R n + wk.length + x ≤ M
/-- the popped dependency's variable -/
def Bx (bx d1 d2 : Nat) (t8 : Value) (W : World) : Prop := Blk W bx 25 [.int .u32 (d1 : Int), .int .u32 (d2 : Int)] ∧ t8.ownBlock ≠ some bx
def L11 (w : World) (q1 q2 n : Nat) (G : Nat → Nat) (F : Ct) (R0 : Nd → Bool) (s : Nat × Nat) (M bx d1 d2 : Nat) (t11 t8 : Value) (W : World) : Prop :=
  ∃ j : Nat, j ≤ np F d1 ∧ t11 = .int .i64 (j : Int) ∧ A10 w q1 q2 n G F R0 s (QB F (d1, d2) j) M ((deps F d1 d2).length + (np F d1 - j)) t8 W ∧ Bx bx d1 d2 t8 W
def L17 (w : World) (q1 q2 n : Nat) (G : Nat → Nat) (F : Ct) (R0 : Nd → Bool) (s : Nat × Nat) (M bx d1 d2 : Nat) (t13 t8 : Value) (W : World) : Prop :=
  ∃ k : Nat, k ≤ (deps F d1 d2).length ∧ t13 = .int .i64 (k : Int) ∧ A10 w q1 q2 n G F R0 s (QD F (d1, d2) k) M ((deps F d1 d2).length - k) t8 W ∧ Bx bx d1 d2 t8 W
theorem turnGrown {w a b : World} {row : Option Nat} {S : Nat → Prop} (h : Turn w a S) (g : a.grownBy b row) (hq : ∀ k, row = some k → w.heap.size ≤ k) : Turn w b S :=
  ⟨g.os.trans h.os, g.tape.trans h.tape, g.output.trans h.output, Nat.le_trans h.size g.size, fun k hk hn => (g.block k (Nat.lt_of_lt_of_le hk h.size) (fun e => by have := hq k e.symm; omega)).trans (h.block k hk hn)⟩
/-- a dependency pushed onto the worklist -/
theorem pushed {w wr w5 : World} {q1 q2 n bx d1 d2 : Nat} {G : Nat → Nat} {F : Ct} {R : Nd → Bool} {wk : List (Nat × Nat)} {u : Nat × Nat} {t v5 : Value} {T : Array Value} (hW : Wk wr w.heap.size 25 2 dc t wk) (hM : Marks wr q1 q2 n G F R) (hT : Turn w wr (GB q1 n G)) (hB : Bx bx d1 d2 t wr)
    (hown : w5.ownsRow w.heap.size 25 2 v5 (wk.length + 1) (wk.flatMap dc ++ [.int .u32 (u.1 : Int), .int .u32 (u.2 : Int)])) (hg : (wr.alloc (.cells T 25)).grownBy w5 t.ownBlock) (hob : v5.ownBlock = t.ownBlock ∨ v5.ownBlock = some (wr.alloc (.cells T 25)).heap.size) :
    Wk w5 w.heap.size 25 2 dc v5 (wk ++ [u]) ∧ Marks w5 q1 q2 n G F R ∧ Turn w w5 (GB q1 n G) ∧ Bx bx d1 d2 v5 w5 := by
  obtain ⟨cs, hb, _⟩ := hM.rows
  refine ⟨Wk.of_own hown (by simp) (by simp [dc]), (hM.kept ((Kept.refl _).alloc _)).grown hg (fun e => (Blk.notOwned hM.fl hW.2 (by decide)) e.symm) (fun e => (hb.notOwned hW.2 (by decide)) e.symm) (fun i hi e => (Blk.notOwned (hM.pl i hi) hW.2 (by decide)) e.symm), turnGrown (hT.alloc _) hg (fun k hk => hW.low k hk), (hB.1.alloc _).grown hg (fun e => hB.2 e.symm), ?_⟩
  rcases hob with e | e
  · rw [e]; exact hB.2
  · rw [e]
    have := hB.1.lt
    intro c
    have := Option.some.inj c
    simp at this
    omega

set_option maxRecDepth 100000 in
set_option maxHeartbeats 16000000 in
theorem closure (w0 w : World) (a : Option Addr) (n c : Nat) (F : Ct) (q1 q2 : Nat) (G : Nat → Nat) (R0 : Nd → Bool) (s : Nat × Nat) (h : FilesC w0 a n F) (hk0 : Kept w0 w) (hfit : Fits n F) (htot : tot F n ≤ 131072) (hm : Marks w q1 q2 n G F R0)
    (hR0 : ∀ x, R0 x = true → ∀ t ∈ succ F x, R0 t = true) (hs : In n F (.inr s)) (hGB : ∀ b, GB q1 n G b → w0.heap.size ≤ b) :
    Calls Try.prog 10 #[.slice a n c, .agg #[.int .u32 (s.1 : Int), .int .u32 (s.2 : Int)], .slice (some ⟨q1, 0, none⟩) n n, .slice (some ⟨q2, 0, none⟩) n n] w (ClosureP w q1 q2 n G F R0 s) := by
  obtain ⟨i0, hi, hz0, hz1, hz2⟩ := info_parts info25
  have hn := hfit.top
  have KW : Hid (∀ W, Turn w W (GB q1 n G) → Kept w0 W) := Lib.hid (fun W t => (Below.mono hk0 (Nat.le_refl _)).trans (t.below hGB hk0.size))
  have HF := Lib.hid h
  have HFit := Lib.hid hfit
  have HIn := Lib.hid (fun x (g : Rch (succ F) (.inr s) x) => rch_in hfit hs g)
  have HA0 : Hid (A10 w q1 q2 n G F R0 s no 131073 0 (.slice (some ⟨w.heap.size + 1, 0, none⟩) 1 1) ((w.alloc (.cells #[.int .u32 (s.1 : Int), .int .u32 (s.2 : Int)] 25)).alloc (.cells #[.int .u32 (s.1 : Int), .int .u32 (s.2 : Int)] 25))) := Lib.hid (by
    have hk2 : Kept w ((w.alloc (.cells #[.int .u32 (s.1 : Int), .int .u32 (s.2 : Int)] 25)).alloc (.cells #[.int .u32 (s.1 : Int), .int .u32 (s.2 : Int)] 25)) := ((Kept.refl _).alloc _).alloc _
    refine ⟨R0, [s], Wl.init hR0, ⟨⟨_, _, rfl⟩, by simp [dc], Or.inr ⟨w.heap.size + 1, 1, #[.int .u32 (s.1 : Int), .int .u32 (s.2 : Int)], rfl, by omega, ?_, Nat.le_refl _, by unfold maxLen; omega, rfl, by simp [dc]⟩⟩, hm.kept hk2, Turn.of_kept hk2 _, by have := wt_le (F := F) R0 n; simp only [List.length_singleton]; omega⟩
    have := heap_alloc_new (w.alloc (.cells #[.int .u32 (s.1 : Int), .int .u32 (s.2 : Int)] 25)) (.cells #[.int .u32 (s.1 : Int), .int .u32 (s.2 : Int)] 25)
    simpa using this)
  clear h hk0 hfit hm hR0 hs hGB htot
  go_enter Try.func10, Try.ntmps10
  go_wp2_with fail
  generalize (w.alloc (.cells #[.int .u32 (s.1 : Int), .int .u32 (s.2 : Int)] 25)).alloc (.cells #[.int .u32 (s.1 : Int), .int .u32 (s.2 : Int)] 25) = wa at *
  go_loopw [8] (fun t8 W => A10 w q1 q2 n G F R0 s no 131073 0 t8 W) (fun t8 W => tm.wt F (Rof W q1 G) n + lenOf t8)
  case atStart => exact HA0.out
  case round =>
    obtain ⟨R, wk, hWl, hWk, hM, hT, hB⟩ := hrel
    obtain ⟨wo, rfl⟩ : ∃ wo : World, wo = wr := ⟨_, rfl⟩
    have HWT := Lib.hid hM.wt
    have HM := Lib.hid hM
    have HT := Lib.hid hT
    clear HA0 hM hT
    rcases List.eq_nil_or_concat wk with rfl | ⟨wk, d, rfl⟩
    · obtain ⟨⟨a5, c5, rfl⟩, _⟩ := hWk
      have HFin := Lib.hid hWl.fin
      clear hWl hB
      go_wp2_with fail
      go_end0
      exact ⟨rfl, ⟨R, HM.out, HFin.out.1, HFin.out.2⟩, HT.out⟩
    · rw [List.concat_eq_append] at hWl hWk hB
      obtain ⟨g, c2, rfl, hc2, hc3, hcell, hWk2⟩ := Wk.pop (f := dc) (size := 2) (fun _ => rfl) hWk
      have hin := HIn.out _ (hWl.soundW d (by simp))
      have x0 : wo.cell? ⟨g, wk.length * 2, none⟩ = some (.int .u32 (d.1 : Int)) := by have := hcell 0 (by omega); simpa [dc] using this
      have x1 : wo.cell? ⟨g, wk.length * 2 + 1, none⟩ = some (.int .u32 (d.2 : Int)) := by have := hcell 1 (by omega); simpa [dc] using this
      have HRd1 := Lib.hid (hWl.soundW d (by simp))
      have HWl := Lib.hid hWl
      have HWk := Lib.hid hWk2
      simp only [List.length_append, List.length_singleton] at hB
      clear hWl hWk hWk2 hcell
      obtain ⟨d1, d2⟩ := d
      have HRd1 : Hid (Rch (succ F) (.inr s) (.inr (d1, d2))) := HRd1
      obtain ⟨hd1, hd2⟩ := hin
      simp only at x0 x1 hd1 hd2
      have hnp := HFit.out.np d1 hd1
      have HK3 := Lib.hid ((Kept.refl wo).alloc (.cells #[.int .u32 (d1 : Int), .int .u32 (d2 : Int)] 25))
      have b0 := (Blk.new wo 25 [.int .u32 (d1 : Int), .int .u32 (d2 : Int)])
      have B0 : Hid (Blk (wo.alloc (.cells #[.int .u32 (d1 : Int), .int .u32 (d2 : Int)] 25)) wo.heap.size 25 [.int .u32 (d1 : Int), .int .u32 (d2 : Int)]) := Lib.hid b0
      clear b0
      have hc4 : c2 ≤ 9223372036854775807 := by unfold maxLen at hc3; exact hc3
      clear hc3
      generalize hml : wk.length = m at *
      have HML := Lib.hid hml
      clear hml
      go_upto_region 5 with fail
      generalize wo.alloc (.cells #[.int .u32 (d1 : Int), .int .u32 (d2 : Int)] 25) = w4 at *
      have HM4 := Lib.hid (HM.out.kept HK3.out)
      have HT4 := Lib.hid (HT.out.kept HK3.out)
      have HW4 := Lib.hid (HWk.out.kept HK3.out)
      have HOB : Hid (g ≠ wo.heap.size) := Lib.hid (by have := World.block_lt_of_cell? wo _ x0; simp only at this; omega)
      have z0 : w4.cell? ⟨wo.heap.size, 0, none⟩ = some (.int .u32 (d1 : Int)) := B0.out.cell 0
      have z1 : w4.cell? ⟨wo.heap.size, 1, none⟩ = some (.int .u32 (d2 : Int)) := B0.out.cell 1
      have r0 := HM4.out.row hd1
      obtain ⟨p0, p1⟩ := HM4.out.cellP hd1 hd2
      have j0 : (0 : Int) ≤ (d1 : Int) := by omega
      have j1 : (d1 : Int) < (n : Int) := by omega
      have j2 : (0 : Int) ≤ (d2 : Int) := by omega
      have j3 : (d2 : Int) < (np F d1 : Int) := by omega
      clear x0 x1 HM HT HWk
      generalize wo.heap.size = bx at *
      cases hRd : R (.inr (d1, d2))
      · rw [hRd] at p0
        have HRd := Lib.hid hRd
        clear hRd
        go_quiet (fail)
        go_wp2_with fail
        have HK5 := Lib.hid ((Kept.refl w4).drewN nq)
        generalize w4.drewN nq = w5 at *
        have HM5 := Lib.hid (HM4.out.kept HK5.out)
        have HT5 := Lib.hid (HT4.out.kept HK5.out)
        have HW5 := Lib.hid (HW4.out.kept HK5.out)
        have HB5 := Lib.hid (B0.out.kept HK5.out)
        have z0 := HK5.out.cell z0
        have z1 := HK5.out.cell z1
        have r0 := HM5.out.row hd1
        obtain ⟨p0, p1⟩ := HM5.out.cellP hd1 hd2
        clear HM4 HT4 HW4 B0 HK5
        go_still_tail 8, (by kernel_rfl)
        change wpList _ _ _ _ _ w5.drew
        have HK6 : Hid (Kept w5 w5.drew) := Lib.hid (Kept.refl _).drew
        generalize w5.drew = w6 at *
        have HM6 := Lib.hid (HM5.out.kept HK6.out)
        have HT6 := Lib.hid (HT5.out.kept HK6.out)
        have HW6 := Lib.hid (HW5.out.kept HK6.out)
        have HB6 := Lib.hid (HB5.out.kept HK6.out)
        obtain ⟨p0, p1⟩ := HM6.out.cellP hd1 hd2
        clear HM5 HT5 HW5 HB5 HK6 HK3
        have HM7 := Lib.hid (HM6.out.setP hd1 hd2)
        have HT7 := Lib.hid (HT6.out.set (p := ⟨G d1, d2, none⟩) (.inr ⟨d1, hd1, rfl⟩) (.bool true))
        have HW7 := Lib.hid (HW6.out.farBlk (HM6.out.pl d1 hd1) (by decide) d2 (.bool true))
        have HB7 := Lib.hid (HB6.out.far (p := ⟨G d1, d2, none⟩) ((HM6.out.pl d1 hd1).apart HB6.out (by decide)) (.bool true))
        have HP1 := Lib.hid (wt_markP (F := F) hd1 hd2 HRd.out)
        go_upto_region 7 with fail
        generalize w6.setCell ⟨G d1, d2, none⟩ (.bool true) = w7 at *
        clear HM6 HT6 HW6 HB6 p0 p1 r0 z0 z1
        have z0 : w7.cell? ⟨bx, 0, none⟩ = some (.int .u32 (d1 : Int)) := HB7.out.cell 0
        have z1 : w7.cell? ⟨bx, 1, none⟩ = some (.int .u32 (d2 : Int)) := HB7.out.cell 1
        have f0 : w7.cell? ⟨q1, d1, none⟩ = some (.bool (R (.inl d1))) := by
          have := (HM7.out.cellF hd1).1
          rw [upd_ne _ _ (by simp)] at this
          exact this
        have f1 := (HM7.out.cellF hd1).2
        have HB := Lib.hid hB
        clear hB
        cases hRf : R (.inl d1)
        · rw [hRf] at f0
          have HRf := Lib.hid hRf
          clear hRf
          have hRf2 : upd R (.inr (d1, d2)) true (.inl d1) = false := by rw [upd_ne _ _ (by simp)]; exact HRf.out
          have HP2 := Lib.hid (wt_markF (F := F) hd1 hRf2)
          have HM8 := Lib.hid (HM7.out.setF hd1)
          have HT8 := Lib.hid (HT7.out.set (p := ⟨q1, d1, none⟩) (.inl rfl) (.bool true))
          have HW8 := Lib.hid (HW7.out.farBlk HM7.out.fl (by decide) d1 (.bool true))
          have HB8 := Lib.hid (HB7.out.far (p := ⟨q1, d1, none⟩) (HM7.out.fl.apart HB7.out (by decide)) (.bool true))
          clear hRf2
          go_upto_region 9 with fail
          generalize w7.setCell ⟨q1, d1, none⟩ (.bool true) = w8 at *
          clear HM7 HT7 HW7 HB7 f0 f1 z0 z1
          have z0 : w8.cell? ⟨bx, 0, none⟩ = some (.int .u32 (d1 : Int)) := HB8.out.cell 0
          have K8 := Lib.hid (KW.out w8 HT8.out)
          obtain ⟨bf, of_, pa, pc, ea, _, cf0, _, _, hpn, hPX⟩ := HF.out.at_ hd1
          subst ea
          have y0 := K8.out.cell cf0
          have HPX := Lib.hid hPX
          have HL8 : Hid (L11 w q1 q2 n G F R0 s (tm.wt F R n + m) bx d1 d2 (.int .i64 0) (.slice (some ⟨g, 0, none⟩) m c2) w8) := Lib.hid ⟨0, Nat.zero_le _, rfl, ⟨upd (upd R (.inr (d1, d2)) true) (.inl d1) true, wk, HWl.out.markNew, HW8.out, HM8.out, HT8.out, by have := HP1.out; have := HP2.out; have := HML.out; omega⟩, HB8.out, by
            simp only [Value.ownBlock]
            intro c
            exact HOB.out (Option.some.inj c)⟩
          clear HWl HW8 HM8 HT8 HB8 cf0 hpn hPX HP1 HP2
          go_wp2_with fail
          clear y0 z0 K8
          go_loopw [11, 8] (fun t11 t8 W => L11 w q1 q2 n G F R0 s (tm.wt F R n + m) bx d1 d2 t11 t8 W) (fun t11 _ _ => np F d1 - (intOf t11).toNat)
          case atStart => exact HL8.out
          case round =>
            obtain ⟨j, hj, rfl, ⟨R7, wk7, hWl7, hWk7, hM7, hT7, hB7⟩, hbx7⟩ := hrel
            have HWl7 := Lib.hid hWl7
            have HWk7 := Lib.hid hWk7
            have HM7 := Lib.hid hM7
            have HT7 := Lib.hid hT7
            have HB7 := Lib.hid hB7
            have HX7 := Lib.hid hbx7
            obtain ⟨⟨a7, c7, rfl⟩, hown7⟩ := hWk7
            clear hWl7 hM7 hT7 hB7 hbx7 HL8
            by_cases hlt7 : j < np F d1
            · obtain ⟨bp, op, da, dcc, ep, _, cp0, _, _, _, _, _, _⟩ := part_at HPX.out hlt7
              subst ep
              have K7 := Lib.hid (KW.out _ HT7.out)
              have t0 := K7.out.cell cp0
              have z0 : wr.cell? ⟨bx, 0, none⟩ = some (.int .u32 (d1 : Int)) := HX7.out.1.cell 0
              have q0 : (j : Int) < (np F d1 : Int) := by omega
              have W32 : IntKind.u32.wrap (j : Int) = (j : Int) := by rw [IntKind.wrap_u32]; omega
              have hl7 : wk7.length ≤ 131073 := by have := HB7.out; have := HB.out; omega
              have hsz7 := HT7.out.size
              clear cp0
              cases hk : keep F d1 j
              · rw [hk] at t0
                have HNX := Lib.hid (HWl7.out.weak (QB.next (F := F) (d := (d1, d2)) hk))
                clear hk
                go_wp2_with fail
                go_roundw
                case rel => exact ⟨j + 1, by omega, by go_num, ⟨R7, wk7, HNX.out, HWk7.out, HM7.out, HT7.out, by have := HB7.out; omega⟩, HX7.out⟩
                case measure => simp [intOf]; omega
              · rw [hk] at t0
                have HRC : Hid (Rch (succ F) (.inr s) (.inr (d1, j))) := Lib.hid (.step (.step HRd1.out (List.mem_cons_self ..)) (List.mem_map.2 ⟨j, List.mem_filter.2 ⟨List.mem_range.2 hlt7, hk⟩, rfl⟩))
                have HNX := Lib.hid (HWl7.out.push HRC.out (QB.push (F := F) (d := (d1, d2)) (j := j)))
                clear hk HRC
                go_wp2_with (at_builtin; refine wpList_append_own_at (P := Try.prog) (w := _) rfl _ _ 105 rfl w.heap.size 25 i0 (.agg #[.int .u32 0, .int .u32 0]) 2 8 Try.underlying105 hi hz0 hz1 hz2 rfl (by decide) _ _ _ rfl (hown7.alloc _) ⟨wr.heap.size, 0, none⟩ 1 1 [.int .u32 (d1 : Int), .int .u32 (j : Int)] rfl rfl (newsOf wr [.int .u32 (d1 : Int), .int .u32 (j : Int)] 25) (by simp [Value.oneCell']) (by unfold maxLen; omega) (by omega) (by simp; omega) ?_; intro v9 w9' hown9 hgrow9 _ hob9)
                have hPU := pushed (u := (d1, j)) HWk7.out HM7.out HT7.out HX7.out hown9 hgrow9 hob9
                have HPU := Lib.hid hPU
                clear hown7 hown9 hgrow9 hob9 hPU t0 z0
                go_wp2_with fail
                go_roundw
                case rel =>
                  refine ⟨j + 1, by omega, by go_num, ⟨R7, wk7 ++ [(d1, j)], HNX.out, HPU.out.1, HPU.out.2.1, HPU.out.2.2.1, ?_⟩, HPU.out.2.2.2⟩
                  have := HB7.out
                  simp only [List.length_append, List.length_singleton]
                  omega
                case measure => simp [intOf]; omega
            · obtain rfl : j = np F d1 := by omega
              have HLX : Hid (L17 w q1 q2 n G F R0 s (tm.wt F R n + m) bx d1 d2 (.int .i64 0) (.slice a7 wk7.length c7) wr) := Lib.hid ⟨0, Nat.zero_le _, rfl, ⟨R7, wk7, HWl7.out.weak QB.fin, HWk7.out, HM7.out, HT7.out, by have := HB7.out; omega⟩, HX7.out⟩
              obtain ⟨wx, rfl⟩ : ∃ wx : World, wx = wr := ⟨_, rfl⟩
              clear HWl7 HWk7 HM7 HT7 HB7 HX7 hown7
              have KX := Lib.hid (KW.out wx (by obtain ⟨_, _, _, ⟨_, _, _, _, _, hTX, _⟩, _⟩ := HLX.out; exact hTX))
              obtain ⟨bf, of_, pa, pc, ea, _, cf0, _, _, _, hPX⟩ := HF.out.at_ hd1
              obtain ⟨bp, op, da, dcc, ep, _, _, cp1, hdc1, hdc2, _, hDX, _⟩ := part_at hPX hd2
              cases ea
              cases ep
              have y0 := KX.out.cell cf0
              have y1 := KX.out.cell cp1
              have HDX := Lib.hid hDX
              have z0 : wx.cell? ⟨bx, 0, none⟩ = some (.int .u32 (d1 : Int)) := by obtain ⟨_, _, _, _, hbx⟩ := HLX.out; exact hbx.1.cell 0
              have z1 : wx.cell? ⟨bx, 1, none⟩ = some (.int .u32 (d2 : Int)) := by obtain ⟨_, _, _, _, hbx⟩ := HLX.out; exact hbx.1.cell 1
              have hnd := HFit.out.nd d1 hd1 d2 hd2
              clear cf0 cp1 hPX hDX
              go_wp2_with fail
              go_quiet (fail)
              go_wp2_with fail
              have HLY : Hid (L17 w q1 q2 n G F R0 s (tm.wt F R n + m) bx d1 d2 (.int .i64 0) (.slice a7 wk7.length c7) (wx.drewN nq)) := Lib.hid (by
                obtain ⟨k, h1, h2, ⟨R9, wk9, h3, h4, h5, h6, h7⟩, h8⟩ := HLX.out
                have kk := (Kept.refl wx).drewN nq
                exact ⟨k, h1, h2, ⟨R9, wk9, h3, h4.kept kk, h5.kept kk, h6.kept kk, h7⟩, h8.1.kept kk, h8.2⟩)
              clear HLX y0 y1 z0 z1 KX
              generalize wx.drewN nq = wy at *
              go_loopw [13, 8] (fun t13 t8 W => L17 w q1 q2 n G F R0 s (tm.wt F R n + m) bx d1 d2 t13 t8 W) (fun t13 _ _ => (deps F d1 d2).length - (intOf t13).toNat)
              case atStart => exact HLY.out
              case round =>
                obtain ⟨k, hk, rfl, ⟨R9, wk9, hWl9, hWk9, hM9, hT9, hB9⟩, hbx9⟩ := hrel
                have HWl9 := Lib.hid hWl9
                have HWk9 := Lib.hid hWk9
                have HM9 := Lib.hid hM9
                have HT9 := Lib.hid hT9
                have HB9 := Lib.hid hB9
                have HX9 := Lib.hid hbx9
                obtain ⟨⟨a9, c9, rfl⟩, hown9⟩ := hWk9
                clear hWl9 hM9 hT9 hB9 hbx9 HLY
                by_cases hlt9 : k < (deps F d1 d2).length
                · obtain ⟨b9, o9, e9, _, hc9⟩ := HDX.out (by omega)
                  subst e9
                  obtain ⟨s1, s2⟩ := hc9 k hlt9
                  have K9 := Lib.hid (KW.out _ HT9.out)
                  have t1 := K9.out.cell s1
                  have t2 := K9.out.cell s2
                  have HRC : Hid (Rch (succ F) (.inr s) (.inr (deps F d1 d2)[k])) := Lib.hid (.step HRd1.out (List.mem_cons_of_mem _ (List.mem_map.2 ⟨_, List.getElem_mem hlt9, rfl⟩)))
                  have HQP := Lib.hid (QD.push (F := F) (d := (d1, d2)) hlt9)
                  have HQP : Hid (∀ x t, QD F (d1, d2) k x t → QD F (d1, d2) (k + 1) x t ∨ t = .inr (deps F d1 d2)[k]) := HQP
                  have q0 : (k : Int) < ((deps F d1 d2).length : Int) := by omega
                  have hl9 : wk9.length ≤ 131073 := by have := HB9.out; have := HB.out; omega
                  generalize (deps F d1 d2)[k] = v9 at *
                  obtain ⟨v1, v2⟩ := v9
                  simp only at t1 t2
                  have hsz9 := HT9.out.size
                  have HL9 := Lib.hid (show wk9.length = wk9.length from rfl)
                  clear s1 s2 hc9
                  go_wp2_with (at_builtin; refine wpList_append_own_at (P := Try.prog) (w := _) rfl _ _ 105 rfl w.heap.size 25 i0 (.agg #[.int .u32 0, .int .u32 0]) 2 8 Try.underlying105 hi hz0 hz1 hz2 rfl (by decide) _ _ _ rfl (hown9.alloc _) ⟨wr.heap.size, 0, none⟩ 1 1 [.int .u32 (v1 : Int), .int .u32 (v2 : Int)] rfl rfl (newsOf wr [.int .u32 (v1 : Int), .int .u32 (v2 : Int)] 25) (by simp [Value.oneCell']) (by unfold maxLen; omega) (by omega) (by simp; omega) ?_; intro v7 w7' hown7 hgrow7 _ hob7)
                  have hPU := pushed (u := (v1, v2)) HWk9.out HM9.out HT9.out HX9.out hown7 hgrow7 hob7
                  have HPU := Lib.hid hPU
                  clear hown9 hown7 hgrow7 hob7 hPU t1 t2
                  go_wp2_with fail
                  go_roundw
                  case rel =>
                    refine ⟨k + 1, by omega, by go_num, ⟨R9, wk9 ++ [(v1, v2)], HWl9.out.push HRC.out HQP.out, HPU.out.1, HPU.out.2.1, HPU.out.2.2.1, ?_⟩, HPU.out.2.2.2⟩
                    have := HB9.out
                    simp only [List.length_append, List.length_singleton]
                    omega
                  case measure => simp [intOf]; omega
                · obtain rfl : k = (deps F d1 d2).length := by omega
                  go_wp2_with fail
                  go_roundw
                  case rel => exact ⟨R9, wk9, HWl9.out.weak QD.fin, HWk9.out, HM9.out, HT9.out, by have := HB9.out; have := HB.out; omega⟩
                  case measure =>
                    rw [HWT.out, HM9.out.wt]
                    have := HB9.out
                    simp only [lenOf]
                    omega
        · rw [hRf] at f0
          have HLX : Hid (L17 w q1 q2 n G F R0 s (tm.wt F R n + m) bx d1 d2 (.int .i64 0) (.slice (some ⟨g, 0, none⟩) m c2) w7) := Lib.hid ⟨0, Nat.zero_le _, rfl, ⟨_, wk, HWl.out.markOld hRf, HW7.out, HM7.out, HT7.out, by have := HP1.out; have := HML.out; omega⟩, HB7.out, by
            simp only [Value.ownBlock]
            intro c
            exact HOB.out (Option.some.inj c)⟩
          clear hRf HWl HW7 HM7 HT7 HB7
          have KX := Lib.hid (KW.out w7 (by obtain ⟨_, _, _, ⟨_, _, _, _, _, hTX, _⟩, _⟩ := HLX.out; exact hTX))
          obtain ⟨bf, of_, pa, pc, ea, _, cf0, _, _, _, hPX⟩ := HF.out.at_ hd1
          obtain ⟨bp, op, da, dcc, ep, _, _, cp1, hdc1, hdc2, _, hDX, _⟩ := part_at hPX hd2
          cases ea
          cases ep
          have y0 := KX.out.cell cf0
          have y1 := KX.out.cell cp1
          have HDX := Lib.hid hDX
          have z0 : w7.cell? ⟨bx, 0, none⟩ = some (.int .u32 (d1 : Int)) := by obtain ⟨_, _, _, _, hbx⟩ := HLX.out; exact hbx.1.cell 0
          have z1 : w7.cell? ⟨bx, 1, none⟩ = some (.int .u32 (d2 : Int)) := by obtain ⟨_, _, _, _, hbx⟩ := HLX.out; exact hbx.1.cell 1
          have hnd := HFit.out.nd d1 hd1 d2 hd2
          clear cf0 cp1 hPX hDX
          go_wp2_with fail
          go_quiet (fail)
          go_wp2_with fail
          have HLY : Hid (L17 w q1 q2 n G F R0 s (tm.wt F R n + m) bx d1 d2 (.int .i64 0) (.slice (some ⟨g, 0, none⟩) m c2) (w7.drewN nq)) := Lib.hid (by
            obtain ⟨k, h1, h2, ⟨R9, wk9, h3, h4, h5, h6, h7⟩, h8⟩ := HLX.out
            have kk := (Kept.refl w7).drewN nq
            exact ⟨k, h1, h2, ⟨R9, wk9, h3, h4.kept kk, h5.kept kk, h6.kept kk, h7⟩, h8.1.kept kk, h8.2⟩)
          clear HLX y0 y1 z0 z1 KX
          generalize w7.drewN nq = wy at *
          go_loopw [13, 8] (fun t13 t8 W => L17 w q1 q2 n G F R0 s (tm.wt F R n + m) bx d1 d2 t13 t8 W) (fun t13 _ _ => (deps F d1 d2).length - (intOf t13).toNat)
          case atStart => exact HLY.out
          case round =>
            obtain ⟨k, hk, rfl, ⟨R9, wk9, hWl9, hWk9, hM9, hT9, hB9⟩, hbx9⟩ := hrel
            have HWl9 := Lib.hid hWl9
            have HWk9 := Lib.hid hWk9
            have HM9 := Lib.hid hM9
            have HT9 := Lib.hid hT9
            have HB9 := Lib.hid hB9
            have HX9 := Lib.hid hbx9
            obtain ⟨⟨a9, c9, rfl⟩, hown9⟩ := hWk9
            clear hWl9 hM9 hT9 hB9 hbx9 HLY
            by_cases hlt9 : k < (deps F d1 d2).length
            · obtain ⟨b9, o9, e9, _, hc9⟩ := HDX.out (by omega)
              subst e9
              obtain ⟨s1, s2⟩ := hc9 k hlt9
              have K9 := Lib.hid (KW.out _ HT9.out)
              have t1 := K9.out.cell s1
              have t2 := K9.out.cell s2
              have HRC : Hid (Rch (succ F) (.inr s) (.inr (deps F d1 d2)[k])) := Lib.hid (.step HRd1.out (List.mem_cons_of_mem _ (List.mem_map.2 ⟨_, List.getElem_mem hlt9, rfl⟩)))
              have HQP := Lib.hid (QD.push (F := F) (d := (d1, d2)) hlt9)
              have HQP : Hid (∀ x t, QD F (d1, d2) k x t → QD F (d1, d2) (k + 1) x t ∨ t = .inr (deps F d1 d2)[k]) := HQP
              have q0 : (k : Int) < ((deps F d1 d2).length : Int) := by omega
              have hl9 : wk9.length ≤ 131073 := by have := HB9.out; have := HB.out; omega
              generalize (deps F d1 d2)[k] = v9 at *
              obtain ⟨v1, v2⟩ := v9
              simp only at t1 t2
              have hsz9 := HT9.out.size
              have HL9 := Lib.hid (show wk9.length = wk9.length from rfl)
              clear s1 s2 hc9
              go_wp2_with (at_builtin; refine wpList_append_own_at (P := Try.prog) (w := _) rfl _ _ 105 rfl w.heap.size 25 i0 (.agg #[.int .u32 0, .int .u32 0]) 2 8 Try.underlying105 hi hz0 hz1 hz2 rfl (by decide) _ _ _ rfl (hown9.alloc _) ⟨wr.heap.size, 0, none⟩ 1 1 [.int .u32 (v1 : Int), .int .u32 (v2 : Int)] rfl rfl (newsOf wr [.int .u32 (v1 : Int), .int .u32 (v2 : Int)] 25) (by simp [Value.oneCell']) (by unfold maxLen; omega) (by omega) (by simp; omega) ?_; intro v7 w7' hown7 hgrow7 _ hob7)
              have hPU := pushed (u := (v1, v2)) HWk9.out HM9.out HT9.out HX9.out hown7 hgrow7 hob7
              have HPU := Lib.hid hPU
              clear hown9 hown7 hgrow7 hob7 hPU t1 t2
              go_wp2_with fail
              go_roundw
              case rel =>
                refine ⟨k + 1, by omega, by go_num, ⟨R9, wk9 ++ [(v1, v2)], HWl9.out.push HRC.out HQP.out, HPU.out.1, HPU.out.2.1, HPU.out.2.2.1, ?_⟩, HPU.out.2.2.2⟩
                have := HB9.out
                simp only [List.length_append, List.length_singleton]
                omega
              case measure => simp [intOf]; omega
            · obtain rfl : k = (deps F d1 d2).length := by omega
              go_wp2_with fail
              go_roundw
              case rel => exact ⟨R9, wk9, HWl9.out.weak QD.fin, HWk9.out, HM9.out, HT9.out, by have := HB9.out; have := HB.out; omega⟩
              case measure =>
                rw [HWT.out, HM9.out.wt]
                have := HB9.out
                simp only [lenOf]
                omega
      · rw [hRd] at p0
        have HS := Lib.hid (HWl.out.skip hRd)
        clear hRd
        go_quiet (fail)
        go_wp2_with fail
        have HK5 := Lib.hid ((Kept.refl w4).drewN nq)
        go_roundw
        case rel => exact ⟨R, wk, HS.out, HW4.out.kept HK5.out, HM4.out.kept HK5.out, HT4.out.kept HK5.out, by have := HML.out; omega⟩
        case measure =>
          rw [HWT.out, (HM4.out.kept HK5.out).wt]
          simp [lenOf]
end Go.Proofs.Ytbdchplgefgkjab.tm
