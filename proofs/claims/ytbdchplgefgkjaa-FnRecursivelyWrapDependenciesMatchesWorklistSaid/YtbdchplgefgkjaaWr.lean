/-
  recursivelyWrapDependencies over this seat's program: what it leaves is a depth-first marking (Dfs).
  Conditions: the files lie in memory as Mem says.
-/
import Derived.Test.YtbdchplgefgkjaaWm
namespace Go.Proofs.Ytbdchplgefgkjaa.wm
open Go.ChangeShapes Go.WideShapes Go.ChangeAt Go.RowKit
open kit wrp

def Wrapped (w : World) (cb LB n : Nat) (J RB K : Nat → Nat) (T : Nat → Nat → Option Nat) (ek : Nat → Int) (v : Nat) (d : Nat → Bool) (z : Nat → Int) (e : Ending) (w' : World) : Prop :=
  e = .returned (.tuple #[]) ∧ ∃ d2 z2, Dfs (im K T) ek v d d2 z z2 ∧ Mem w' cb LB n J RB K T ek d2 z2 ∧ Turn w w' (JB n J)

section
variable (w : World) (cb LB n : Nat) (J RB K : Nat → Nat) (T : Nat → Nat → Option Nat) (ek : Nat → Int) (v : Nat) (d : Nat → Bool) (z : Nat → Int)

set_option maxRecDepth 100000 in
set_option maxHeartbeats 4000000 in
/-- the file is done already -/
theorem already (h : Mem w cb LB n J RB K T ek d z) (hv : v < n) (hd : d v = true) :
    Calls Try.prog 11 #[.pointer (some ⟨cb, 0, none⟩), .int .u32 (v : Int)] w (Wrapped w cb LB n J RB K T ek v d z) := by
  have c1 := h.cell
  have c2 := h.file hv
  have c3 := (h.cells hv).1
  rw [hd] at c3
  have hn := h.fit.1
  have i0 : (0 : Int) ≤ (v : Int) := by omega
  have i1 : (v : Int) < (n : Int) := by omega
  have tb : ∀ W : World, (Instr.typeAssert (.iface 87 (.pointer (some ⟨J v, 0, none⟩))) 107 87 false).run Try.prog W = .ok (.pointer (some ⟨J v, 0, none⟩)) W := fun W => by kernel_rfl
  have HM := Lib.hid h
  have HD := Lib.hid hd
  clear h hd
  go_enter Try.func11, Try.ntmps11
  go_wp2_with fail
  go_end0
  exact ⟨rfl, d, z, Dfs.done HD.out, HM.out, Turn.refl _ _⟩

set_option maxRecDepth 100000 in
set_option maxHeartbeats 4000000 in
/-- the runtime's own file -/
theorem runtime (h : Mem w cb LB n J RB K T ek d z) (hv : 0 < n) (hd : d 0 = false) :
    Calls Try.prog 11 #[.pointer (some ⟨cb, 0, none⟩), .int .u32 0] w (Wrapped w cb LB n J RB K T ek 0 d z) := by
  have c1 := h.cell
  have c2 : w.cell? ⟨LB, 2, none⟩ = _ := h.file hv
  obtain ⟨c3, _, _, _, f3, _⟩ := h.cells hv
  rw [hd] at c3
  have hn := h.fit.1
  have tb : ∀ W : World, (Instr.typeAssert (.iface 87 (.pointer (some ⟨J 0, 0, none⟩))) 107 87 false).run Try.prog W = .ok (.pointer (some ⟨J 0, 0, none⟩)) W := fun W => by kernel_rfl
  have HM := Lib.hid h
  have HD := Lib.hid hd
  clear h hd
  go_enter Try.func11, Try.ntmps11
  go_wp2_with fail
  go_end0
  exact ⟨rfl, upd d 0 true, z, Dfs.zero HD.out, HM.out.done hv, (Turn.refl _ _).set ⟨0, hv, rfl⟩ _⟩

/-- what the loop over the records leaves behind j records -/
def Rr (j : Nat) (w' : World) : Prop := ∃ d2 z2, Lp (im K T) ek v ((List.range j).filterMap (T v)) d d2 z z2 ∧ Mem w' cb LB n J RB K T ek d2 z2 ∧ Turn w w' (JB n J)
def At (t55 : Value) (w' : World) : Prop := ∃ j : Nat, j ≤ K v ∧ t55 = .int .i64 (j : Int) ∧ Rr w cb LB n J RB K T ek v d z j w'

set_option maxRecDepth 100000 in
set_option maxHeartbeats 8000000 in
theorem wrapS (h : Mem w cb LB n J RB K T ek d z) (hv : v < n) (h0 : v ≠ 0) (hd : d v = false)
    (ih : ∀ (W : World) (d2 : Nat → Bool) (z2 : Nat → Int) (t : Nat), (∀ x, d x = true → d2 x = true) → d2 v = true → t < n → Mem W cb LB n J RB K T ek d2 z2 → Calls Try.prog 11 #[.pointer (some ⟨cb, 0, none⟩), .int .u32 (t : Int)] W (Wrapped W cb LB n J RB K T ek t d2 z2)) :
    Calls Try.prog 11 #[.pointer (some ⟨cb, 0, none⟩), .int .u32 (v : Int)] w (Wrapped w cb LB n J RB K T ek v d z) := by
  have c1 := h.cell
  have c2 := h.file hv
  obtain ⟨c3, c4, c5, c6, f3, f4⟩ := h.cells hv
  rw [hd] at c3
  have hn := h.fit.1
  have hK : K v ≤ 262144 := h.fit.2.1 v hv
  have i0 : (0 : Int) ≤ (v : Int) := by omega
  have i1 : (v : Int) < (n : Int) := by omega
  have i2 : ((v : Int) == 0) = false := by simp; omega
  have tb : ∀ W : World, (Instr.typeAssert (.iface 87 (.pointer (some ⟨J v, 0, none⟩))) 107 87 false).run Try.prog W = .ok (.pointer (some ⟨J v, 0, none⟩)) W := fun W => by kernel_rfl
  have hST : Rr w cb LB n J RB K T ek v d z 0 ((w.setCell ⟨J v, 15, none⟩ (.bool true)).setCell ⟨J v, 11, none⟩ (.int .u8 (wrapK (ek v) (z v)))) := by
    refine ⟨upd d v true, upd z v (wrapK (ek v) (z v)), Lp.start hd h0, (h.done hv).wrap hv _ ?_, ((Turn.refl _ _).set ⟨v, hv, rfl⟩ _).set ⟨v, hv, rfl⟩ _⟩
    have := h.fit.2.2.1 v hv
    unfold wrapK
    split
    · split <;> omega
    · exact this
  have hST2 : z v ≠ 0 → Rr w cb LB n J RB K T ek v d z 0 (w.setCell ⟨J v, 15, none⟩ (.bool true)) := fun hz => by
    refine ⟨upd d v true, upd z v (wrapK (ek v) (z v)), Lp.start hd h0, ?_, (Turn.refl _ _).set ⟨v, hv, rfl⟩ _⟩
    have e : wrapK (ek v) (z v) = z v := by unfold wrapK; rw [if_neg hz]
    rw [e, upd_self]
    exact h.done hv
  have HS := Lib.hid hST
  have HS2 := Lib.hid hST2
  have HIH := Lib.hid ih
  have HD := Lib.hid hd
  have hfitT := h.fit.2.2.2
  have HT := Lib.hid (fun j t (hj : j < K v) (ht : T v j = some t) => hfitT v j t hv hj ht)
  clear h hd hST hST2 ih hfitT
  have HS3 : Hid (∃ W0, Rr w cb LB n J RB K T ek v d z 0 W0 ∧ (((z v == 0) = true ∧ (ek v == 1) = true ∧ W0 = (w.setCell ⟨J v, 15, none⟩ (.bool true)).setCell ⟨J v, 11, none⟩ (.int .u8 1)) ∨ ((z v == 0) = true ∧ (ek v == 1) = false ∧ W0 = (w.setCell ⟨J v, 15, none⟩ (.bool true)).setCell ⟨J v, 11, none⟩ (.int .u8 2)) ∨ ((z v == 0) = false ∧ W0 = w.setCell ⟨J v, 15, none⟩ (.bool true)))) := Lib.hid (by
    have h1 := HS.out
    by_cases hz : z v = 0
    · by_cases he : ek v = 1
      · rw [show wrapK (ek v) (z v) = 1 by unfold wrapK; rw [if_pos hz, if_pos he]] at h1
        exact ⟨_, h1, .inl ⟨by simpa using hz, by simpa using he, rfl⟩⟩
      · rw [show wrapK (ek v) (z v) = 2 by unfold wrapK; rw [if_pos hz, if_neg he]] at h1
        exact ⟨_, h1, .inr (.inl ⟨by simpa using hz, by simpa using he, rfl⟩)⟩
    · exact ⟨_, HS2.out hz, .inr (.inr ⟨by simpa using hz, rfl⟩)⟩)
  clear HS HS2
  obtain ⟨W0, hR0, hW0⟩ := HS3.out
  clear HS3
  have HS0 := Lib.hid (show At w cb LB n J RB K T ek v d z (.int .i64 0) W0 from ⟨0, Nat.zero_le _, rfl, hR0⟩)
  clear hR0
  rcases hW0 with ⟨hz, he, hW⟩ | ⟨hz, he, hW⟩ | ⟨hz, hW⟩
  all_goals
    subst hW
    go_enter Try.func11, Try.ntmps11
    go_wp2_with fail
    go_loopw [55] (fun t55 W => At w cb LB n J RB K T ek v d z t55 W) (fun t55 _ => K v - (intOf t55).toNat)
    case atStart => exact HS0.out
    case round =>
      obtain ⟨j, hj, rfl, d2, z2, hL, hM, hTu⟩ := hrel
      have HL := Lib.hid hL
      have HTu := Lib.hid hTu
      clear hL hTu HS0 c1 c2 c3 c4 c5 c6 f3 f4
      by_cases hlt : j < K v
      · obtain ⟨cs, hl, hr, ho, h10⟩ := hM.record hv hlt
        have HM := Lib.hid hM
        clear hM
        have hsz : (Try.prog.info? 101).map (·.size) = some cs.length := by rw [hl]; exact sizeR
        have k0 : (j : Int) < (K v : Int) := by omega
        go_upto_region 11 with (first | (with_reducible refine wpList_load_mid rfl 101 (.tmp 57) rfl (RB v) (j * 15) rfl cs _ hr Try.underlying101 rfl hsz ?_) | (with_reducible refine wpList_store_mid rfl 101 (.tmp 6) (.tmp 58) rfl _ 0 cs.toArray rfl rfl (there_new _ _ _ _ (by simp [hl])) (by simpa using hsz) ho ?_))
        obtain ⟨W2, hW2⟩ : ∃ W2, W2 = (wr.alloc (.cells #[.pointer none, .pointer none, .string ⟨#[]⟩, .string ⟨#[]⟩, .string ⟨#[]⟩, .string ⟨#[]⟩, .int .u8 0, .int .i32 0, .int .i32 0, .int .i32 0, .int .u32 0, .int .u32 0, .int .u16 0, .int .u8 0, .int .u8 0] 101)).setCells wr.heap.size 0 cs := ⟨_, rfl⟩
        have hbx := boxed wr 101 #[.pointer none, .pointer none, .string ⟨#[]⟩, .string ⟨#[]⟩, .string ⟨#[]⟩, .string ⟨#[]⟩, .int .u8 0, .int .i32 0, .int .i32 0, .int .i32 0, .int .u32 0, .int .u32 0, .int .u16 0, .int .u8 0, .int .u8 0] cs (by simp [hl])
        rw [← hW2] at hbx
        have K2 := Lib.hid hbx.1
        have b10 := hbx.2 10 _ h10
        rw [← hW2]
        clear hW2 hbx hl hr ho h10 hsz
        generalize wr.heap.size = q at *
        have HTj := Lib.hid (HT.out j)
        cases hT : T v j with
        | none =>
          rw [hT] at b10
          have hT := Lib.hid hT
          unfold flag at b10
          simp only at b10
          go_wp2_with fail
          refine (valid 0 false rfl W2).mono ?_
          rintro e W3 ⟨rfl, k3⟩
          have K3 := Lib.hid (K2.out.trans k3)
          clear k3 b10
          go_wp2_with fail
          go_roundw
          case rel => exact ⟨j + 1, by omega, by go_num, d2, z2, by rw [im_succ, hT.out]; simpa using HL.out, HM.out.kept K3.out, HTu.out.kept K3.out⟩
          case measure => simp [intOf]; omega
        | some t =>
          rw [hT] at b10
          have htn : t < n := HTj.out t hlt hT
          have hT := Lib.hid hT
          unfold flag at b10
          simp only at b10
          go_wp2_with fail
          refine (valid (4294967295 - (t : Int)) true (by simp; omega) W2).mono ?_
          rintro e W3 ⟨rfl, k3⟩
          have b3 := k3.cell b10
          have K3 := Lib.hid (K2.out.trans k3)
          clear k3 b10
          have HG := Lib.hid (fun W => get (4294967295 - (t : Int)) (by omega) (by omega) W)
          have et := Lib.hid (show 4294967295 - (4294967295 - (t : Int)) = (t : Int) by omega)
          generalize 4294967295 - (t : Int) = f at *
          go_wp2_with fail
          refine (HG.out _).mono ?_
          rintro e W4 ⟨rfl, k4⟩
          have K4 := Lib.hid (K3.out.trans k4)
          clear k4 b3
          go_wp2_with fail
          rw [et.out]
          refine (HIH.out W4 d2 z2 t HL.out.mono HL.out.hit htn (HM.out.kept K4.out)).mono ?_
          rintro e W5 ⟨rfl, d3, z3, hD3, hM3, hT3⟩
          have HD3 := Lib.hid hD3
          have HM3 := Lib.hid hM3
          have HT3 := Lib.hid hT3
          clear hD3 hM3 hT3
          go_wp2_with fail
          go_roundw
          case rel => exact ⟨j + 1, by omega, by go_num, d3, z3, by rw [im_succ, hT.out]; exact HL.out.step HD.out h0 (List.mem_filterMap.2 ⟨j, List.mem_range.2 hlt, hT.out⟩) HD3.out, HM3.out, (HTu.out.kept K4.out).trans HT3.out⟩
          case measure => simp [intOf]; omega
      · obtain rfl : j = K v := by omega
        go_wp2_with fail
        go_end0
        exact ⟨rfl, d2, z2, HL.out.done (fun t ht => ht), hM, HTu.out⟩
end
end Go.Proofs.Ytbdchplgefgkjaa.wm
