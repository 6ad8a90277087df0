/-
  The root and the shape over this seat's program.
  Conditions: the slices are readable.
-/
import Derived.Test.YtcndjkndmmcagaaDoorGd
namespace Go.Proofs.YtcndjkndmmcagaaDoor.mp
open Go.ChangeShapes Go.WideShapes Go.ChangeAt Go.RowKit
open kit chain arena

def rootI (zs : List Int) (n i : Nat) : Int := match rootS zs (n + 1) i with | some r => (r : Int) | none => -1
def R19 (zs : List Int) (n i : Nat) (t5 t6 : Value) : Prop := ∃ k r : Nat, k ≤ n + 1 ∧ r < n ∧ t6 = .int .i64 (k : Int) ∧ t5 = .int .i64 (r : Int) ∧ Hid (rootS zs (n + 1 - k) r = rootS zs (n + 1) i)
set_option maxRecDepth 100000 in
set_option maxHeartbeats 4000000 in
theorem root (a : Option Addr) (n c i : Nat) (zs : List Int) (w : World) (h : Ints .i32 w a n zs) (hl : Links n zs) (hi : i < n) (hn : n ≤ 65536) :
    Calls Tryd.prog 19 #[.slice a n c, .int .i64 (i : Int)] w fun e w' => e = .returned (.int .i64 (rootI zs n i)) ∧ w = w' := by
  obtain ⟨b, off, rfl, hb, hc⟩ := h.2 (by omega)
  have HC := Lib.hid hc
  have HL := Lib.hid hl
  have HI : Hid (∀ r : Nat, rootS zs (n + 1) i = some r → rootI zs n i = (r : Int)) := Lib.hid (fun r e => by unfold rootI; rw [e])
  have HN : Hid (rootS zs (n + 1) i = none → rootI zs n i = -1) := Lib.hid (fun e => by unfold rootI; rw [e])
  clear h hl hc
  generalize rootI zs n i = ri at *
  go_enter Tryd.func19, Tryd.ntmps19
  go_wp2_with fail
  go_loop [5, 6] (fun t5 t6 => R19 zs n i t5 t6) (fun _ t6 => n + 1 - (intOf t6).toNat)
  case atStart => exact ⟨0, i, by omega, hi, rfl, rfl, Lib.hid rfl⟩
  case round =>
    obtain ⟨k, r, hk, hr, rfl, rfl, HR⟩ := hrel
    by_cases hlt : k ≤ n
    · have x0 : w.cell? ⟨b, off + r, none⟩ = some (.int .i32 (lk zs r)) := HC.out r hr
      have hki : (k : Int) ≤ (n : Int) := by omega
      have hri : (r : Int) < (n : Int) := by omega
      have hlr := HL.out.2 r hr
      have HST : Hid (rootS zs (n + 1 - k) r = if lk zs r = -1 then some r else rootS zs (n + 1 - (k + 1)) (lk zs r).toNat) := Lib.hid (by rw [show n + 1 - k = (n + 1 - (k + 1)) + 1 by omega]; rfl)
      by_cases hz : lk zs r = -1
      · have e : rootS zs (n + 1) i = some r := by rw [← HR.out, HST.out, if_pos hz]
        have hri2 : ri = (r : Int) := HI.out r e
        have e1 : ((-1 : Int) == -1) = true := rfl
        rw [hz] at x0
        clear hlr HST hz e
        subst hri2
        go_wp2_with fail
        go_ret
        exact ⟨rfl, rfl⟩
      · have h2 := hlr.resolve_left hz
        have HRN := HR.out.symm.trans (HST.out.trans (if_neg hz))
        obtain ⟨j, hj⟩ := Int.eq_ofNat_of_zero_le h2.1
        rw [hj] at x0 h2 hz HRN
        rw [Int.toNat_natCast] at HRN
        have HRR : Hid (R19 zs n i (.int .i64 (j : Int)) (.int .i64 ((k : Int) + 1))) := Lib.hid ⟨k + 1, j, by omega, by omega, by go_num, rfl, Lib.hid HRN.symm⟩
        have e1 : ((j : Int) == -1) = false := by simp
        clear hlr HST HRN hj hz
        go_wp2_with fail
        go_round
        case rel => first | exact HRR.out | ((repeat apply Exists.intro); exact ⟨HRR.out, rfl⟩)
        case measure => simp [intOf]; omega
    · obtain rfl : k = n + 1 := by omega
      have e : rootS zs (n + 1) i = none := by rw [← HR.out, Nat.sub_self]; rfl
      have hri2 := HN.out e
      have hki : ¬ (((n + 1 : Nat) : Int) ≤ (n : Int)) := by omega
      clear e HR
      subst hri2
      go_wp2_with fail
      go_ret
      exact ⟨rfl, rfl⟩

def Shape (n0 n1 n3 n4 n5 i : Nat) (zs : List Int) : Prop := n1 = n0 ∧ n4 = n3 ∧ n5 = n3 ∧ i < n0 ∧ Links n0 zs ∧ ∃ r, rootS zs (n0 + 1) i = some r
set_option maxRecDepth 100000 in
set_option maxHeartbeats 4000000 in
theorem shape (a0 : Option Addr) (n0 c0 : Nat) (a1 : Option Addr) (n1 c1 : Nat) (zs : List Int) (a3 : Option Addr) (n3 c3 : Nat) (a4 : Option Addr) (n4 c4 : Nat) (a5 : Option Addr) (n5 c5 i : Nat) (w : World) (h : Ints .i32 w a1 n1 zs) (hb : ∀ j, -2147483648 ≤ lk zs j ∧ lk zs j ≤ 2147483647)
    (m0 : n0 ≤ 65536) (m1 : n1 ≤ 65536) (m3 : n3 ≤ 65536) (m4 : n4 ≤ 65536) (m5 : n5 ≤ 65536) (hi : i ≤ 4294967295) :
    Calls Tryd.prog 7 #[.slice a0 n0 c0, .slice a1 n1 c1, .slice a3 n3 c3, .slice a4 n4 c4, .slice a5 n5 c5, .bool true, .int .u32 (i : Int)] w (YesBool w (Shape n0 n1 n3 n4 n5 i zs)) := by
  have HV := Lib.hid (valid a1 n1 c1 zs w h hb m1)
  have HRT := Lib.hid (fun hl hi => root a1 n1 c1 i zs w h hl hi m1)
  clear h hb
  by_cases e1 : n4 = n3
  · have d1 : ((n4 : Int) != (n3 : Int)) = false := by simp [e1]
    by_cases e2 : n5 = n3
    · have d2 : ((n5 : Int) != (n3 : Int)) = false := by simp [e2]
      by_cases e3 : n1 = n0
      · have d3 : ((n1 : Int) != (n0 : Int)) = false := by simp [e3]
        have HE := Lib.hid (show n1 = n0 ∧ n4 = n3 ∧ n5 = n3 from ⟨e3, e1, e2⟩)
        clear e1 e2 e3
        by_cases hin : i < n0
        · have hin2 : ¬ (n0 : Int) ≤ (i : Int) := by omega
          go_enter Tryd.func7, Tryd.ntmps7
          go_wp2_with fail
          refine HV.out.mono ?_
          rintro e w' ⟨_ | _, rfl, hv, rfl⟩
          · clear hv
            go_wp2_with fail
            go_ret
            exact ⟨false, rfl, fun h => (by cases h), rfl⟩
          · have hl := hv rfl
            have HL := Lib.hid hl
            have HR := Lib.hid (HRT.out hl (by have := HE.out.1; omega))
            clear hl hv
            go_wp2_with fail
            refine HR.out.mono ?_
            rintro e w' ⟨rfl, rfl⟩
            cases hr : rootS zs (n1 + 1) i with
            | none =>
              have hri : rootI zs n1 i = -1 := by unfold rootI; rw [hr]
              rw [hri]
              clear hri hr
              go_wp2_with fail
              go_ret
              exact ⟨false, rfl, fun h => (by cases h), rfl⟩
            | some r =>
              have hri : rootI zs n1 i = (r : Int) := by unfold rootI; rw [hr]
              rw [hri]
              have HRr := Lib.hid hr
              clear hri hr
              go_wp2_with fail
              go_ret
              refine ⟨true, rfl, fun _ => ?_, rfl⟩
              obtain ⟨q1, q2, q3⟩ := HE.out
              refine ⟨q1, q2, q3, hin, ?_, r, ?_⟩
              · rw [← q1]; exact HL.out
              · rw [← q1]; exact HRr.out
        · have hin2 : (n0 : Int) ≤ (i : Int) := by omega
          go_enter Tryd.func7, Tryd.ntmps7
          go_wp2_with fail
          go_ret
          exact ⟨false, rfl, fun h => (by cases h), rfl⟩
      · have d3 : ((n1 : Int) != (n0 : Int)) = true := by simp; omega
        go_enter Tryd.func7, Tryd.ntmps7
        go_wp2_with fail
        go_ret
        exact ⟨false, rfl, fun h => (by cases h), rfl⟩
    · have d2 : ((n5 : Int) != (n3 : Int)) = true := by simp; omega
      go_enter Tryd.func7, Tryd.ntmps7
      go_wp2_with fail
      go_ret
      exact ⟨false, rfl, fun h => (by cases h), rfl⟩
  · have d1 : ((n4 : Int) != (n3 : Int)) = true := by simp; omega
    go_enter Tryd.func7, Tryd.ntmps7
    go_wp2_with fail
    go_ret
    exact ⟨false, rfl, fun h => (by cases h), rfl⟩
end Go.Proofs.YtcndjkndmmcagaaDoor.mp
