/-
  The walk of FnRecursivelyWrapDependenciesMatchesWorklist over this seat's program.
  Conditions: the files are readable.
-/
import Derived.Test.YtbdchplgefgkjaaWa
import Derived.Test.YtbdchplgefgkjaaWork
namespace Go.Proofs.Ytbdchplgefgkjaa.wm
open Go.ChangeShapes Go.WideShapes Go.ChangeAt Go.RowKit
open kit wrp

def intc (u : Nat) : List Value := [.int .i64 (u : Int)]
def lenOf : Value → Nat
  | .slice _ n _ => n
  | _ => 0
abbrev imF (fs : List WF) : Nat → List Nat := im (Kf fs) (Tf fs)
def L5 (w3 : World) (fs : List WF) (n s q base : Nat) (t10 : Value) (W : World) : Prop :=
  ∃ R wk, Wl (diF fs) (imF fs) s n R wk ∧ Wk W base 3 1 intc t10 wk ∧ Bools W q n R ∧ Kept w3 W ∧ 2 * open_ n R + wk.length ≤ 2 * n
def L6 (w3 : World) (fs : List WF) (n s q base u M : Nat) (t12 t10 : Value) (W : World) : Prop :=
  ∃ (j : Nat) (R : Nat → Bool) (wk : List Nat), j ≤ Kf fs u ∧ t12 = .int .i64 (j : Int) ∧ Wi (diF fs) (imF fs) s n u ((List.range j).filterMap (Tf fs u)) R wk ∧ Wk W base 3 1 intc t10 wk ∧ Bools W q n R ∧ Kept w3 W ∧ 2 * open_ n R + wk.length ≤ M

theorem info3 : (Try.prog.info? 3).map (fun i => (i.zero, i.size, i.bytes)) = some (some (.int .i64 0), 1, 8) := by kernel_rfl
def LawTrue (w : World) (e : Ending) (w' : World) : Prop := e = .returned (.bool true) ∧ Kept w w'

/-- what lies in memory behind the recursion -/
structure Aft (w w3 : World) (fs : List WF) (n s : Nat) (b off : Nat) (J : Nat → Nat) (d2 : Nat → Bool) (z2 : Nat → Int) : Prop where
  kept : Kept w w3
  files : ∀ i, i < n → FileAt w3 b (off + i * 4) (fs.getD i default)
  repr : ∀ i, i < n → w3.cell? ⟨w.heap.size, i, none⟩ = some (.pointer (some ⟨J i, 0, none⟩))
  did : ∀ i, i < n → w3.cell? ⟨J i, 15, none⟩ = some (.bool (d2 i))
  wrap : ∀ i, i < n → w3.cell? ⟨J i, 11, none⟩ = some (.int .u8 (z2 i))
  dfs : Dfs (imF fs) (ekF fs) s (diF fs) d2 (wrF fs) z2

theorem open_le (n : Nat) (d : Nat → Bool) : open_ n d ≤ n := by
  have := List.countP_le_length (p := fun i => !d i) (l := List.range n)
  simpa [open_] using this
theorem open_upd {n v : Nat} {R : Nat → Bool} (hv : v < n) (h : R v = false) : open_ n (upd R v true) < open_ n R :=
  open_lt (fun x hx => by
    by_cases e : x = v
    · rw [e]; exact upd_same _ _ _
    · rw [upd_ne _ _ e]; exact hx) hv h (upd_same _ _ _)
/-- a target pushed onto the worklist -/
theorem pushed {w3 wr w5 : World} {q n u base : Nat} {R : Nat → Bool} {wk : List Nat} {t v5 : Value} {T : Array Value} (hb : w3.heap.size ≤ base) (hW : Wk wr base 3 1 intc t wk) (hQ : Bools wr q n R) (hK : Kept w3 wr)
    (hown : w5.ownsRow base 3 1 v5 (wk.length + 1) (wk.flatMap intc ++ [.int .i64 (u : Int)])) (hg : (wr.alloc (.cells T 3)).grownBy w5 t.ownBlock) : Wk w5 base 3 1 intc v5 (wk ++ [u]) ∧ Bools w5 q n R ∧ Kept w3 w5 :=
  ⟨Wk.of_own hown (by simp) (by simp [intc]), Blk.grown (Blk.alloc hQ _) hg (fun e => (Blk.notOwned hQ hW.2 (by decide)) e.symm), keptGrown (hK.alloc _) hg (fun k hk => by have := hW.low k hk; omega)⟩

set_option maxRecDepth 100000 in
set_option maxHeartbeats 16000000 in
theorem law (w : World) (a : Option Addr) (n c : Nat) (fs : List WF) (s : Int) (h : Fs w a n fs) (hnc : n ≤ maxLen) (hs : 0 ≤ s) :
    Calls Try.prog 3 #[.slice a n c, .int .u32 s] w (LawTrue w) := by
  have HF := Lib.hid h
  have HNC := Lib.hid hnc
  have hm : n ≤ 9223372036854775807 := by unfold maxLen at hnc; exact hnc
  clear h hnc
  obtain ⟨i0, hi, hz0, hz1, hz2⟩ := info_parts info3
  go_enter Try.func3, Try.ntmps3
  go_wp2_with fail
  refine (bytes w a n c s fs HF.out HNC.out).mono ?_
  rintro e w' ⟨⟨b0, rfl, hb0⟩, rfl⟩
  cases b0
  · clear hb0
    go_wp2_with fail
    go_ret
    exact ⟨rfl, Kept.refl _⟩
  · have hn := (hb0 rfl).1
    have HS : Hid (Small fs n) := Lib.hid (hb0 rfl).2
    clear hb0
    go_wp2_with fail
    refine (fits w a n c fs HF.out hn HS.out).mono ?_
    rintro e w' ⟨⟨b0, rfl, hb0⟩, rfl⟩
    cases b0
    · clear hb0
      go_wp2_with fail
      go_ret
      exact ⟨rfl, Kept.refl _⟩
    · have HFit : Hid (Fit n fs) := Lib.hid (hb0 rfl)
      have hn2 := HFit.out.top
      clear hb0
      have W32 : IntKind.u32.wrap (n : Int) = (n : Int) := by rw [IntKind.wrap_u32]; omega
      by_cases hsn : s < (n : Int)
      · obtain ⟨v, rfl⟩ := Int.eq_ofNat_of_zero_le hs
        have hv : v < n := by omega
        go_wp2_with fail
        refine (build w a n c fs HF.out HFit.out).mono ?_
        rintro e w1 ⟨rfl, J, RB, hB⟩
        have HB := Lib.hid hB
        clear hB
        go_wp2_with fail
        refine (newCtx w1 (w.heap.size + 1) n).mono ?_
        rintro e w2 ⟨cb, cs, rfl, hcb, hc10, hcs, k2⟩
        have HM := Lib.hid (HB.out.mem HFit.out HF.out k2 hcb hc10)
        have K2 := Lib.hid k2
        clear hcb hc10 hcs k2
        go_wp2_with fail
        refine (zzrec cb (w.heap.size + 1) n J RB (Kf fs) (Tf fs) (ekF fs) w2 v (diF fs) (wrF fs) HM.out hv).mono ?_
        rintro e w3 ⟨rfl, d2, z2, hD, hM3, hT⟩
        obtain ⟨b, off, rfl, hbl, hfl⟩ := HF.out.2.1 (by omega)
        have hA : Aft w w3 fs n v b off J d2 z2 := by
          have hJ : ∀ k, JB n J k → w.heap.size ≤ k := fun k ⟨i, hi, e⟩ => e ▸ (HB.out.one i hi).2.1
          have hk02 := HB.out.kept.trans K2.out
          have hk : Kept w w3 := (Below.mono hk02 (Nat.le_refl _)).trans (hT.below hJ hk02.size)
          obtain ⟨c1, p1, l1, e1⟩ := HB.out.rp
          have p3 := hT.blk (p1.kept K2.out) (HM.out.notJ (p1.kept K2.out) (by decide))
          refine ⟨hk, fun i hi => (hfl i hi).kept hk, fun i hi => by rw [p3.cell]; exact e1 i hi, fun i hi => (hM3.cells hi).1, fun i hi => (hM3.cells hi).2.1, hD⟩
        have HA := Lib.hid hA
        clear hA hD hM3 hT HM HB K2 hbl hfl HS
        obtain ⟨C, lC, gC, mC⟩ := makeN (T := 33) (E := 4) (size := 1) (bytes := 1) Try.underlying33 (by kernel_rfl) n (by omega) (by omega)
        have hC0 := gC 0 (.bool false) (by omega) (by kernel_rfl)
        simp only [Nat.mul_one, Nat.add_zero] at hC0 lC
        obtain ⟨cur, lcur, mcur⟩ := make0 (T := 34) (E := 3) (z := .int .i64 0) (size := 1) (bytes := 8) Try.underlying34 (by kernel_rfl) n (n : Int) rfl (by omega) (by unfold maxLen; omega)
        have hQ : Bools ((w3.alloc (.cells C.toArray 4)).alloc (.cells cur 3)) w3.heap.size n (fun _ => false) := (Bools.made w3 lC hC0).kept ((Kept.refl _).alloc _)
        have hW : ((w3.alloc (.cells C.toArray 4)).alloc (.cells cur 3)).ownsRow w3.heap.size 3 1 (.slice (some ⟨w3.heap.size + 1, 0, none⟩) 0 n) 0 [] := by
          have := World.ownsRow_made (base := w3.heap.size) (e := 3) (size := 1) (w3.alloc (.cells C.toArray 4)) cur n (by simp) (by unfold maxLen; omega) lcur
          simpa using this
        have hK : Kept w3 ((w3.alloc (.cells C.toArray 4)).alloc (.cells cur 3)) := ((Kept.refl _).alloc _).alloc _
        have HQ := Lib.hid hQ
        have HW := Lib.hid hW
        have HK := Lib.hid hK
        clear hQ hW hK gC hC0 lC lcur
        go_upto_region 13 with fail
        clear mC mcur
        generalize (w3.alloc (.cells C.toArray 4)).alloc (.cells cur 3) = wq at *
        have x0 := HQ.out.cell hv
        have x1 := HQ.out.free v
        have v0 : (0 : Int) ≤ (v : Int) := by omega
        have v1 : (v : Int) < (n : Int) := by omega
        have W64 : IntKind.i64.wrap (v : Int) = (v : Int) := IntWalk.i64_in _ (by omega)
        go_upto_region 14 with fail
        have HQ2 := Lib.hid (HQ.out.set hv true)
        have HW2 := Lib.hid (Wk.farBlk (f := intc) (wk := []) (Wk.of_own HW.out rfl rfl) HQ.out (by decide) v (.bool true))
        have HK2 := Lib.hid (HK.out.setCell (p := ⟨w3.heap.size, v, none⟩) (Nat.le_refl _) (.bool true))
        clear x0 x1 HQ HW HK
        generalize wq.setCell ⟨w3.heap.size, v, none⟩ (.bool true) = wr at *
        have hsz : w3.heap.size ≤ wr.heap.size := HK2.out.size
        have hown := HW2.out.2
        go_wp2_with (at_builtin; refine wpList_append_own _ rfl _ _ 34 rfl w3.heap.size 3 i0 (.int .i64 0) 1 8 Try.underlying34 hi hz0 hz1 hz2 rfl (by decide) _ _ _ rfl (hown.alloc _) ⟨wr.heap.size, 0, none⟩ 1 1 [.int .i64 (v : Int)] rfl rfl (newsOf wr [.int .i64 (v : Int)] 3) (by simp [Value.oneCell']) (by unfold maxLen; simp) (by simp) (by simp; omega) ?_; intro v5 w5 hown5 hgrow5 _)
        obtain ⟨p1, p2, p3⟩ := pushed (u := v) (Nat.le_refl _) HW2.out HQ2.out HK2.out (by simpa using hown5) hgrow5
        have HL0 : Hid (L5 w3 fs n v w3.heap.size w3.heap.size v5 w5) := Lib.hid ⟨_, [v], Wl.init hv, p1, p2, p3, by
          have h1 := open_upd (R := fun _ => false) hv rfl
          have h2 := open_le n (fun _ => false)
          simp only [List.length_singleton]
          omega⟩
        clear p1 p2 p3 hown hown5 hgrow5 HQ2 HW2 HK2 hsz
        go_loopw [10] (fun t10 W => L5 w3 fs n v w3.heap.size w3.heap.size t10 W) (fun t10 W => 2 * noes W w3.heap.size n + lenOf t10)
        case atStart => exact HL0.out
        case round =>
          obtain ⟨R, wk, hWl, hWk, hQ, hK, hM⟩ := hrel
          obtain ⟨wo, rfl⟩ : ∃ wo : World, wo = wr := ⟨_, rfl⟩
          clear HL0
          rcases List.eq_nil_or_concat wk with rfl | ⟨wk, u, rfl⟩
          · obtain ⟨⟨a5, c5, rfl⟩, _⟩ := hWk
            have HWl := Lib.hid hWl
            have HQ := Lib.hid hQ
            have HK := Lib.hid hK
            clear hWl hQ hK hM
            go_wp2_with fail
            clear hi hz0 hz1 hz2
            go_loop [14] (fun t14 => ∃ k : Nat, k ≤ n ∧ t14 = .int .i64 (k : Int)) (fun t14 => n - (intOf t14).toNat)
            case atStart => exact ⟨0, by omega, rfl⟩
            case round =>
              obtain ⟨k, hk, rfl⟩ := hrel
              by_cases hlt : k < n
              · have hki : (k : Int) < (n : Int) := by omega
                obtain ⟨y0, y1, y2, _, _⟩ := HA.out.files k hlt
                have z0 := HK.out.cell y0
                have z1 := HK.out.cell y1
                have z2' := HK.out.cell y2
                have r0 := HK.out.cell (HA.out.repr k hlt)
                have r1 := HK.out.cell (HA.out.did k hlt)
                have r2 := HK.out.cell (HA.out.wrap k hlt)
                have q0 := HQ.out.cell hlt
                obtain ⟨s1, s2⟩ := same HA.out.dfs HWl.out k
                have s1 : d2 k = ((fs.getD k default).did || R k) := s1
                have s2 : z2 k = if R k = true ∧ (fs.getD k default).did = false ∧ k ≠ 0 then wrapK (fs.getD k default).ek (fs.getD k default).wr else (fs.getD k default).wr := s2
                rw [s1] at r1
                rw [s2] at r2
                clear s1 s2 y0 y1 y2
                generalize fs.getD k default = f at *
                obtain ⟨ek, wk2, did, im, ia, ic⟩ := f
                simp only at z0 z1 z2' r1 r2
                generalize R k = Rk at *
                generalize J k = Jk at *
                by_cases hc : Rk = true ∧ did = false ∧ k ≠ 0
                · obtain ⟨rfl, rfl, hk0⟩ := hc
                  have hk1 : ((k : Int) != 0) = true := by simp; omega
                  rw [if_pos ⟨rfl, rfl, hk0⟩] at r2
                  unfold wrapK at r2
                  by_cases hw0 : wk2 = 0
                  · rw [if_pos hw0] at r2
                    subst hw0
                    by_cases he1 : ek = 1
                    · rw [if_pos he1] at r2
                      subst he1
                      go_wp2_with fail
                      go_round
                      case rel => exact ⟨k + 1, by omega, by go_num⟩
                      case measure => simp [intOf]; omega
                    · rw [if_neg he1] at r2
                      have he2 : (ek == 1) = false := by simpa using he1
                      go_wp2_with fail
                      go_round
                      case rel => exact ⟨k + 1, by omega, by go_num⟩
                      case measure => simp [intOf]; omega
                  · rw [if_neg hw0] at r2
                    have hw1 : (wk2 == 0) = false := by simpa using hw0
                    go_wp2_with fail
                    go_round
                    case rel => exact ⟨k + 1, by omega, by go_num⟩
                    case measure => simp [intOf]; omega
                · rw [if_neg hc] at r2
                  cases Rk
                  · clear hc
                    cases did
                    all_goals
                      go_wp2_with fail
                      go_round
                      case rel => exact ⟨k + 1, by omega, by go_num⟩
                      case measure => simp [intOf]; omega
                  · cases did
                    · have hk1 : ((k : Int) != 0) = false := by
                        have : k = 0 := Classical.byContradiction fun c => hc ⟨rfl, rfl, c⟩
                        simp [this]
                      clear hc
                      go_wp2_with fail
                      go_round
                      case rel => exact ⟨k + 1, by omega, by go_num⟩
                      case measure => simp [intOf]; omega
                    · clear hc
                      go_wp2_with fail
                      go_round
                      case rel => exact ⟨k + 1, by omega, by go_num⟩
                      case measure => simp [intOf]; omega
              · obtain rfl : n = k := by omega
                go_wp2_with fail
                go_ret
                exact ⟨rfl, HA.out.kept.trans HK.out⟩
          · rw [List.concat_eq_append] at hWl hWk hM
            obtain ⟨g, c2, rfl, hc2, hc3, hcell, hWk2⟩ := Wk.pop (f := intc) (size := 1) (fun _ => rfl) hWk
            have x0 : wo.cell? ⟨g, wk.length, none⟩ = some (.int .i64 (u : Int)) := by
              have := hcell 0 (by omega)
              simp only [Nat.mul_one, Nat.add_zero] at this
              exact this
            have hu := (hWl.low u (by simp)).1
            have HWi := Lib.hid hWl.pop
            have HWk := Lib.hid hWk2
            have HQ := Lib.hid hQ
            have HK := Lib.hid hK
            have HN := Lib.hid hQ.noes
            simp only [List.length_append, List.length_singleton] at hM
            clear hWl hWk hWk2 hQ hK hcell
            obtain ⟨y0, y1, y2, y3, y4⟩ := HA.out.files u hu
            have z0 := HK.out.cell y0
            have z1 := HK.out.cell y1
            have z2' := HK.out.cell y2
            have z3 := HK.out.cell y3
            have Y3 := Lib.hid y3
            have Y4 := Lib.hid y4
            clear y0 y1 y2 y3 y4 z0 z1 z3
            generalize hm : wk.length = m at *
            have HM := Lib.hid hm
            clear hm
            have hc4 : c2 ≤ 9223372036854775807 := by unfold maxLen at hc3; exact hc3
            clear hc3
            have u0 : (0 : Int) ≤ (u : Int) := by omega
            have u1 : (u : Int) < (n : Int) := by omega
            have HDi : Hid (diF fs u = (fs.getD u default).did) := Lib.hid rfl
            have HKf : Hid (Kf fs u = (fs.getD u default).im.length) := Lib.hid rfl
            have HTf : Hid (∀ j, Tf fs u j = tg ((fs.getD u default).im.getD j 0)) := Lib.hid (fun j => rfl)
            have HLow := Lib.hid (HFit.out.low u hu)
            have HLen := Lib.hid (HFit.out.len u hu)
            generalize fs.getD u default = f at *
            obtain ⟨ek, wk2, did, im, ia, ic⟩ := f
            simp only at z2'
            have Y3 : Hid (w3.cell? ⟨b, off + u * 4 + 3, none⟩ = some (.slice ia im.length ic)) := Y3
            have Y4 : Hid (Row w3 ia im.length ic (im.map (Value.int .i32))) := Y4
            have HDi : Hid (diF fs u = did) := HDi
            have HKf : Hid (Kf fs u = im.length) := HKf
            have HTf : Hid (∀ j, Tf fs u j = tg (im.getD j 0)) := HTf
            have HLow : Hid (∀ j, j < im.length → im.getD j 0 < (n : Int)) := HLow
            have hL : im.length ≤ 262144 := HLen.out
            clear HLen
            by_cases hskip : did = true ∨ u = 0
            · have HS2 := Lib.hid (HWi.out.skip (by rw [HDi.out]; exact hskip))
              cases did
              · obtain rfl : u = 0 := by simpa using hskip
                clear hskip
                go_wp2_with fail
                go_roundw
                case rel => exact ⟨R, wk, HS2.out, HWk.out, HQ.out, HK.out, by have := HM.out; omega⟩
                case measure => simp [lenOf]
              · clear hskip
                go_wp2_with fail
                go_roundw
                case rel => exact ⟨R, wk, HS2.out, HWk.out, HQ.out, HK.out, by have := HM.out; omega⟩
                case measure => simp [lenOf]
            · have hd0 : did = false := by cases did <;> simp_all
              have hu0 : u ≠ 0 := fun e => hskip (.inr e)
              subst hd0
              have hu1 : ((u : Int) == 0) = false := by simp; omega
              have HI0 : Hid (L6 w3 fs n v w3.heap.size w3.heap.size u (2 * open_ n R + m) (.int .i64 0) (.slice (some ⟨g, 0, none⟩) m c2) wo) := Lib.hid ⟨0, R, wk, Nat.zero_le _, rfl, HWi.out, HWk.out, HQ.out, HK.out, by have := HM.out; omega⟩
              clear hskip HWi HWk HQ HK
              go_wp2_with fail
              clear z2' x0
              go_loopw [12, 10] (fun t12 t10 W => L6 w3 fs n v w3.heap.size w3.heap.size u (2 * open_ n R + m) t12 t10 W) (fun t12 _ _ => im.length - (intOf t12).toNat)
              case atStart => exact HI0.out
              case round =>
                obtain ⟨j, R2, wk2, hj, rfl, hWi, hWk, hQ, hK, hM2⟩ := hrel
                rw [HKf.out] at hj
                clear HI0
                have HWi := Lib.hid hWi
                have HWk := Lib.hid hWk
                have HQ := Lib.hid hQ
                have HK := Lib.hid hK
                have HM2 := Lib.hid hM2
                obtain ⟨⟨a6, c6, rfl⟩, _⟩ := hWk
                clear hWi hQ hK hM2
                have z3 := HK.out.cell Y3.out
                by_cases hlt : j < im.length
                · obtain ⟨b3, off3, rfl, _, xj⟩ := (Y4.out.kept HK.out).at_ 0 hlt
                  have hy1 := HLow.out j hlt
                  have HTj := Lib.hid (HTf.out j)
                  have j0 : (j : Int) < (im.length : Int) := by omega
                  generalize im.getD j 0 = y at *
                  by_cases hy : 0 ≤ y
                  · obtain ⟨t, rfl⟩ := Int.eq_ofNat_of_zero_le hy
                    have htn : t < n := by omega
                    have HTt : Hid (Tf fs u j = some t) := Lib.hid (by rw [HTj.out]; unfold tg; rw [if_pos hy]; simp)
                    have q0 := HQ.out.cell htn
                    have q1 := HQ.out.free t
                    cases hRt : R2 t
                    · rw [hRt] at q0
                      have HRt := Lib.hid hRt
                      clear hRt
                      go_upto_region 25 with fail
                      have HQ2 := Lib.hid (HQ.out.set htn true)
                      have HW2 := Lib.hid (HWk.out.farBlk HQ.out (by decide) t (.bool true))
                      have HK2 := Lib.hid (HK.out.setCell (p := ⟨w3.heap.size, t, none⟩) (Nat.le_refl _) (.bool true))
                      clear q0 q1 xj z3
                      generalize wr.setCell ⟨w3.heap.size, t, none⟩ (.bool true) = wt at *
                      have hown := HW2.out.2
                      have hl2 : wk2.length ≤ 8192 := by
                        have h1 := HM2.out
                        have h2 := open_le n R
                        omega
                      have hsz := HK2.out.size
                      generalize hl3 : wk2.length = l2 at *
                      have HL3 := Lib.hid hl3
                      clear hl3
                      have W64 : IntKind.i64.wrap (t : Int) = (t : Int) := IntWalk.i64_in _ (by omega)
                      go_wp2_with (at_builtin; refine wpList_append_own _ rfl _ _ 34 rfl w3.heap.size 3 i0 (.int .i64 0) 1 8 Try.underlying34 hi hz0 hz1 hz2 rfl (by decide) _ _ _ rfl (hown.alloc _) ⟨wt.heap.size, 0, none⟩ 1 1 [.int .i64 (t : Int)] rfl rfl (newsOf wt [.int .i64 (t : Int)] 3) (by simp [Value.oneCell']) (by unfold maxLen; omega) (by omega) (by simp; omega) ?_; intro v7 w7 hown7 hgrow7 _)
                      obtain ⟨p1, p2, p3⟩ := pushed (u := t) (Nat.le_refl _) HW2.out HQ2.out HK2.out (by rw [HL3.out]; exact hown7) hgrow7
                      have HP := Lib.hid (And.intro p1 (And.intro p2 p3))
                      clear p1 p2 p3 hown hown7 hgrow7 hsz
                      go_wp2_with fail
                      go_roundw
                      case rel => exact ⟨j + 1, upd R2 t true, wk2 ++ [t], by rw [HKf.out]; omega, by go_num, by rw [im_succ, HTt.out]; exact HWi.out.new HDi.out hu0 (List.mem_filterMap.2 ⟨j, List.mem_range.2 (by rw [HKf.out]; exact hlt), HTt.out⟩) htn, HP.out.1, HP.out.2.1, HP.out.2.2, by
                        have h1 := open_upd htn HRt.out
                        have h2 := HM2.out
                        have h3 := HL3.out
                        simp only [List.length_append, List.length_singleton]
                        omega⟩
                      case measure => simp [intOf]; omega
                    · rw [hRt] at q0
                      have HW6 := Lib.hid (HWi.out.old hRt)
                      clear hRt
                      go_wp2_with fail
                      go_roundw
                      case rel => exact ⟨j + 1, R2, wk2, by rw [HKf.out]; omega, by go_num, by rw [im_succ, HTt.out]; exact HW6.out, HWk.out, HQ.out, HK.out, HM2.out⟩
                      case measure => simp [intOf]; omega
                  · have HTt : Hid (Tf fs u j = none) := Lib.hid (by rw [HTj.out]; unfold tg; rw [if_neg hy])
                    go_wp2_with fail
                    go_roundw
                    case rel => exact ⟨j + 1, R2, wk2, by rw [HKf.out]; omega, by go_num, by rw [im_succ, HTt.out]; simpa using HWi.out, HWk.out, HQ.out, HK.out, HM2.out⟩
                    case measure => simp [intOf]; omega
                · obtain rfl : j = im.length := by omega
                  go_wp2_with fail
                  go_roundw
                  case rel => exact ⟨R2, wk2, HWi.out.fin (fun t ht => by rw [HKf.out.symm]; exact ht), HWk.out, HQ.out, HK.out, by have := HM2.out; omega⟩
                  case measure =>
                    rw [HN.out, HQ.out.noes]
                    have := HM2.out
                    unfold open_ at this
                    simp only [lenOf]
                    omega
      · go_wp2_with fail
        go_ret
        exact ⟨rfl, Kept.refl _⟩
end Go.Proofs.Ytbdchplgefgkjaa.wm
