/-
  The guards of FnShouldIncludePartOnlyTargetWrapMatters over this seat's program.
  Conditions: the slices are readable.
-/
import Derived.Test.YtlpgghdimjmkiabSip4
namespace Go.Proofs.Ytlpgghdimjmkiab.sip
open Go.ChangeShapes Go.WideShapes Go.ChangeAt Go.RowKit
open kit

def SomeBool (w : World) (e : Ending) (w' : World) : Prop := (∃ b, e = .returned (.bool b)) ∧ w = w'
set_option maxHeartbeats 4000000 in
theorem bytes (a0 : Option Addr) (n0 c0 : Nat) (a1 : Option Addr) (n1 c1 : Nat) (a2 : Option Addr) (n2 c2 : Nat) (a3 : Option Addr) (n3 c3 : Nat) (a4 : Option Addr) (n4 c4 : Nat) (a5 : Option Addr) (n5 c5 : Nat) (w : World) :
    Calls Try.prog 4 #[.slice a0 n0 c0, .slice a1 n1 c1, .slice a2 n2 c2, .slice a3 n3 c3, .slice a4 n4 c4, .slice a5 n5 c5] w (SomeBool w) := by
  go_enter Try.func4, Try.ntmps4
  go_wp2
  all_goals
    go_ret
    exact ⟨⟨_, rfl⟩, rfl⟩

/-- every index that is used is in range -/
structure Wf (n0 n1 n2 n3 n4 : Nat) (bs : List Bool) (ts : List Int) (is : List Bool) (rs : List Int) : Prop where
  l2 : n2 = n1
  l4 : n4 = n3
  t : ∀ j, j < n1 → bs.getD j false = true → ts.getD j 0 < n0
  r : ∀ j, j < n3 → is.getD j false = true → rs.getD j 0 < n1
def WfBool (w : World) (n0 n1 n2 n3 n4 : Nat) (bs : List Bool) (ts : List Int) (is : List Bool) (rs : List Int) (e : Ending) (w' : World) : Prop :=
  (∃ b, e = .returned (.bool b) ∧ (b = true → Wf n0 n1 n2 n3 n4 bs ts is rs)) ∧ w = w'

set_option maxRecDepth 100000 in
set_option maxHeartbeats 8000000 in
theorem wf5 (w : World) (a0 : Option Addr) (n0 c0 : Nat) (a1 : Option Addr) (n1 c1 : Nat) (bs : List Bool) (a2 : Option Addr) (n2 c2 : Nat) (ts : List Int) (a3 : Option Addr) (n3 c3 : Nat) (is : List Bool) (a4 : Option Addr) (n4 c4 : Nat) (rs : List Int)
    (h1 : Row w a1 n1 c1 (bs.map Value.bool)) (h2 : Row w a2 n2 c2 (ts.map (Value.int .u32))) (h3 : Row w a3 n3 c3 (is.map Value.bool)) (h4 : Row w a4 n4 c4 (rs.map (Value.int .u32))) (hn0 : n0 ≤ 65536) (hn1 : n1 ≤ 65536) (hn2 : n2 ≤ 65536) (hn3 : n3 ≤ 65536) (hn4 : n4 ≤ 65536) :
    Calls Try.prog 5 #[.slice a0 n0 c0, .slice a1 n1 c1, .slice a2 n2 c2, .slice a3 n3 c3, .slice a4 n4 c4] w (WfBool w n0 n1 n2 n3 n4 bs ts is rs) := by
  have H1 := Lib.hid h1
  have H2 := Lib.hid h2
  have H3 := Lib.hid h3
  have H4 := Lib.hid h4
  clear h1 h2 h3 h4
  have u0 : IntKind.u32.wrap (n0 : Int) = (n0 : Int) := by rw [IntKind.wrap_u32]; omega
  have u1 : IntKind.u32.wrap (n1 : Int) = (n1 : Int) := by rw [IntKind.wrap_u32]; omega
  by_cases e2 : n2 = n1
  · by_cases e4 : n4 = n3
    · subst e2 e4
      go_enter Try.func5, Try.ntmps5
      go_wp2
      go_loop [11] (fun t => ∃ k : Nat, k ≤ n2 ∧ t = .int .i64 (k : Int) ∧ Hid (∀ j, j < k → bs.getD j false = true → ts.getD j 0 < n0)) (fun t => n2 - (intOf t).toNat)
      case atStart => exact ⟨0, by omega, rfl, Lib.hid (fun j hj => absurd hj (by omega))⟩
      case round =>
        obtain ⟨k, hk, rfl, HA⟩ := hrel
        by_cases hlt : k < n2
        · obtain ⟨b, off, rfl, x0⟩ := at_ H1.out false hlt
          obtain ⟨b2, off2, rfl, z0⟩ := at_ H2.out 0 hlt
          have HN : Hid (bs.getD k false = true → ts.getD k 0 < n0 → ∀ j, j < k + 1 → bs.getD j false = true → ts.getD j 0 < n0) := Lib.hid (fun q1 q2 j hj hb => by
            by_cases e : j = k
            · rw [e]; exact q2
            · exact HA.out j (by omega) hb)
          have HN2 : Hid (bs.getD k false = false → ∀ j, j < k + 1 → bs.getD j false = true → ts.getD j 0 < n0) := Lib.hid (fun q1 j hj hb => by
            by_cases e : j = k
            · rw [e, q1] at hb; cases hb
            · exact HA.out j (by omega) hb)
          clear HA
          generalize bs.getD k false = bk at *
          generalize ts.getD k 0 = tk at *
          cases bk
          · have H := Lib.hid (HN2.out rfl)
            clear HN HN2
            go_wp2
            go_round
            case rel => exact ⟨k + 1, by omega, by go_num, H⟩
            case measure => simp [intOf]; omega
          · by_cases ht : tk < (n0 : Int)
            · have H := Lib.hid (HN.out rfl ht)
              clear HN HN2
              go_wp2
              go_round
              case rel => exact ⟨k + 1, by omega, by go_num, H⟩
              case measure => simp [intOf]; omega
            · clear HN HN2
              go_wp2
              go_ret
              exact ⟨⟨false, rfl, fun h => by cases h⟩, rfl⟩
        · obtain rfl : n2 = k := by omega
          go_wp2
          go_loop [12] (fun t => ∃ k : Nat, k ≤ n4 ∧ t = .int .i64 (k : Int) ∧ Hid (∀ j, j < k → is.getD j false = true → rs.getD j 0 < n2)) (fun t => n4 - (intOf t).toNat)
          case atStart => exact ⟨0, by omega, rfl, Lib.hid (fun j hj => absurd hj (by omega))⟩
          case round =>
            obtain ⟨k, hk, rfl, HB⟩ := hrel
            by_cases hlt : k < n4
            · obtain ⟨b, off, rfl, x0⟩ := at_ H3.out false hlt
              obtain ⟨b2, off2, rfl, z0⟩ := at_ H4.out 0 hlt
              have HN : Hid (is.getD k false = true → rs.getD k 0 < n2 → ∀ j, j < k + 1 → is.getD j false = true → rs.getD j 0 < n2) := Lib.hid (fun q1 q2 j hj hb => by
                by_cases e : j = k
                · rw [e]; exact q2
                · exact HB.out j (by omega) hb)
              have HN2 : Hid (is.getD k false = false → ∀ j, j < k + 1 → is.getD j false = true → rs.getD j 0 < n2) := Lib.hid (fun q1 j hj hb => by
                by_cases e : j = k
                · rw [e, q1] at hb; cases hb
                · exact HB.out j (by omega) hb)
              clear HB
              generalize is.getD k false = bk at *
              generalize rs.getD k 0 = tk at *
              cases bk
              · have H := Lib.hid (HN2.out rfl)
                clear HN HN2
                go_wp2
                go_round
                case rel => exact ⟨k + 1, by omega, by go_num, H⟩
                case measure => simp [intOf]; omega
              · by_cases ht : tk < (n2 : Int)
                · have H := Lib.hid (HN.out rfl ht)
                  clear HN HN2
                  go_wp2
                  go_round
                  case rel => exact ⟨k + 1, by omega, by go_num, H⟩
                  case measure => simp [intOf]; omega
                · clear HN HN2
                  go_wp2
                  go_ret
                  exact ⟨⟨false, rfl, fun h => by cases h⟩, rfl⟩
            · obtain rfl : n4 = k := by omega
              have HAB := Lib.hid (And.intro HA.out HB.out)
              clear HA HB
              go_wp2
              go_ret
              exact ⟨⟨true, rfl, fun _ => ⟨rfl, rfl, HAB.out.1, HAB.out.2⟩⟩, rfl⟩
    · have q1 : ((n2 : Int) == (n1 : Int)) = true := by simp [e2]
      have q2 : ((n4 : Int) == (n3 : Int)) = false := by simp; omega
      clear u0 u1
      subst e2
      go_enter Try.func5, Try.ntmps5
      go_wp2
      go_ret
      exact ⟨⟨false, rfl, fun h => by cases h⟩, rfl⟩
  · have q1 : ((n2 : Int) == (n1 : Int)) = false := by simp; omega
    go_enter Try.func5, Try.ntmps5
    go_wp2
    go_ret
    exact ⟨⟨false, rfl, fun h => by cases h⟩, rfl⟩
end Go.Proofs.Ytlpgghdimjmkiab.sip
