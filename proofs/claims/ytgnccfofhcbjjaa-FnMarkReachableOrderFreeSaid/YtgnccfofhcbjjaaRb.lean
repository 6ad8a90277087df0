/-
  lkB1BitsAgree over this seat's program: the bits of two runs are the union of two single runs.
  Conditions: the four runs' rows lie in memory.
-/
import Derived.Test.YtgnccfofhcbjjaaRv
namespace Go.Proofs.Ytgnccfofhcbjjaa.lk
open Go.ChangeShapes Go.WideShapes Go.ChangeAt Go.RowKit
open kit dfs dst

theorem Res.at_ {W : World} {LB : Nat} {F : Ct} {EB : Nat → Nat} {d : Nat → Nat} {e : Nat → Nat → Bool} (h : Res W LB F EB d e) {i : Nat} (hi : i < F.length) : W.cell? ⟨LB, i * 24, none⟩ = some (.slice (some ⟨EB i, 0, none⟩) 32 32) ∧ W.cell? ⟨LB, i * 24 + 20, none⟩ = some (.int .u32 (d i : Int)) ∧ W.cell? ⟨LB, i * 24 + 23, none⟩ = some (.bool (fl F i).live) := by
  obtain ⟨cs, h1, h2⟩ := h.files
  obtain ⟨q1, q2, q3⟩ := h2 i hi
  exact ⟨by rw [h1.cell]; exact q1, by rw [h1.cell]; exact q2, by rw [h1.cell]; exact q3⟩
def Agreed (w : World) (x : Ending) (w' : World) : Prop := x = .returned (.bool true) ∧ Kept w w'
set_option maxRecDepth 100000 in
set_option maxHeartbeats 8000000 in
theorem agree (w : World) (F : Ct) (L1 L2 L3 L4 : Nat) (E1 E2 E3 E4 : Nat → Nat) (d1 d2 d3 d4 : Nat → Nat) (e1 e2 e3 e4 : Nat → Nat → Bool) (i b : Nat) (hn : F.length ≤ 256) (hi : i < F.length) (hb : b < 256)
    (h1 : Res w L1 F E1 d1 e1) (h2 : Res w L2 F E2 d2 e2) (h3 : Res w L3 F E3 d3 e3) (h4 : Res w L4 F E4 d4 e4) (hu : e3 i b = (e1 i b || e2 i b) ∧ e4 i b = (e1 i b || e2 i b)) :
    Calls Try.prog 11 #[.slice (some ⟨L1, 0, none⟩) F.length F.length, .slice (some ⟨L2, 0, none⟩) F.length F.length, .slice (some ⟨L3, 0, none⟩) F.length F.length, .slice (some ⟨L4, 0, none⟩) F.length F.length, .int .i64 (i : Int), .int .u64 (b : Int)] w (Agreed w) := by
  obtain ⟨a1, _, _⟩ := h1.at_ hi
  obtain ⟨a2, _, _⟩ := h2.at_ hi
  obtain ⟨a3, _, _⟩ := h3.at_ hi
  obtain ⟨a4, _, _⟩ := h4.at_ hi
  have c1 := Lib.hid (fun W (k : Kept w W) => hasBit W (E1 i) b (e1 i) hb ((h1.bits i hi).kept k))
  have c2 := Lib.hid (fun W (k : Kept w W) => hasBit W (E2 i) b (e2 i) hb ((h2.bits i hi).kept k))
  have c3 := Lib.hid (fun W (k : Kept w W) => hasBit W (E3 i) b (e3 i) hb ((h3.bits i hi).kept k))
  have c4 := Lib.hid (fun W (k : Kept w W) => hasBit W (E4 i) b (e4 i) hb ((h4.bits i hi).kept k))
  rw [hu.1] at c3
  rw [hu.2] at c4
  have i0 : (i : Int) < (F.length : Int) := by omega
  generalize e1 i b = v1 at *
  generalize e2 i b = v2 at *
  generalize E1 i = g1 at *
  generalize E2 i = g2 at *
  generalize E3 i = g3 at *
  generalize E4 i = g4 at *
  clear hu h1 h2 h3 h4
  cases v1
  · go_enter Try.func11, Try.ntmps11
    go_wp2_with fail
    refine (c1.out w (Kept.refl _)).mono ?_
    rintro x w1 ⟨rfl, k1⟩
    have K1 := Lib.hid k1
    replace a2 := k1.cell a2
    replace a3 := k1.cell a3
    replace a4 := k1.cell a4
    clear k1
    go_wp2_with fail
    refine (c2.out w1 K1.out).mono ?_
    rintro x w2 ⟨rfl, k2⟩
    have K2 := Lib.hid (K1.out.trans k2)
    replace a3 := k2.cell a3
    replace a4 := k2.cell a4
    clear k2
    cases v2
    all_goals
      simp only [Bool.or_false, Bool.or_true] at c3 c4
      go_wp2_with fail
      refine (c3.out w2 K2.out).mono ?_
      rintro x w3 ⟨rfl, k3⟩
      have K3 := Lib.hid (K2.out.trans k3)
      replace a4 := k3.cell a4
      clear k3
      go_wp2_with fail
      refine (c4.out w3 K3.out).mono ?_
      rintro x w4 ⟨rfl, k4⟩
      have K4 := Lib.hid (K3.out.trans k4)
      clear k4
      go_wp2_with fail
      go_ret
      exact ⟨rfl, K4.out⟩
  · simp only [Bool.true_or] at c3 c4
    go_enter Try.func11, Try.ntmps11
    go_wp2_with fail
    refine (c1.out w (Kept.refl _)).mono ?_
    rintro x w1 ⟨rfl, k1⟩
    have K1 := Lib.hid k1
    replace a3 := k1.cell a3
    replace a4 := k1.cell a4
    clear k1
    go_wp2_with fail
    refine (c3.out w1 K1.out).mono ?_
    rintro x w3 ⟨rfl, k3⟩
    have K3 := Lib.hid (K1.out.trans k3)
    replace a4 := k3.cell a4
    clear k3
    go_wp2_with fail
    refine (c4.out w3 K3.out).mono ?_
    rintro x w4 ⟨rfl, k4⟩
    have K4 := Lib.hid (K3.out.trans k4)
    clear k4
    go_wp2_with fail
    go_ret
    exact ⟨rfl, K4.out⟩
end Go.Proofs.Ytgnccfofhcbjjaa.lk
