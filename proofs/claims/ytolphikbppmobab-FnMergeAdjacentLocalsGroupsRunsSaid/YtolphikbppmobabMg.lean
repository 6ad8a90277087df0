/-
  The two guards of FnMergeAdjacentLocalsGroupsRuns over this seat's program.
  Conditions: the third slice reads as a list of bytes.
-/
import Derived.Test.YtolphikbppmobabMk2
namespace Go.Proofs.Ytolphikbppmobab.mj
open Go.ChangeShapes Go.WideShapes Go.ChangeAt Go.RowKit
open kit

theorem bytesT (a0 a1 a2 : Option Addr) (n0 c0 n1 c1 n2 c2 : Nat) (h : n0 + n1 + n2 ≤ 1048576) (w : World) :
    Calls Try.prog 4 #[.slice a0 n0 c0, .slice a1 n1 c1, .slice a2 n2 c2] w fun e w' => e = .returned (.bool true) ∧ w = w' := by
  go_enter Try.func4, Try.ntmps4
  go_wp2
  go_ret
  exact ⟨rfl, rfl⟩
theorem bytesF (a0 a1 a2 : Option Addr) (n0 c0 n1 c1 n2 c2 : Nat) (h : ¬ n0 + n1 + n2 ≤ 1048576) (m0 : n0 ≤ maxLen) (m1 : n1 ≤ maxLen) (m2 : n2 ≤ maxLen) (w : World) :
    Calls Try.prog 4 #[.slice a0 n0 c0, .slice a1 n1 c1, .slice a2 n2 c2] w fun e w' => e = .returned (.bool false) ∧ w = w' := by
  unfold maxLen at m0 m1 m2
  by_cases h0 : n0 ≤ 1048576
  case neg =>
    go_enter Try.func4, Try.ntmps4
    go_wp2
    go_ret
    exact ⟨rfl, rfl⟩
  by_cases h1 : n1 ≤ 1048576
  case neg =>
    go_enter Try.func4, Try.ntmps4
    go_wp2
    go_ret
    exact ⟨rfl, rfl⟩
  by_cases h2 : n0 + n1 ≤ 1048576
  case neg =>
    go_enter Try.func4, Try.ntmps4
    go_wp2
    go_ret
    exact ⟨rfl, rfl⟩
  by_cases h3 : n2 ≤ 1048576
  case neg =>
    go_enter Try.func4, Try.ntmps4
    go_wp2
    go_ret
    exact ⟨rfl, rfl⟩
  go_enter Try.func4, Try.ntmps4
  go_wp2
  go_ret
  exact ⟨rfl, rfl⟩

def gB (n0 n1 : Nat) (ds : List Nat) : Bool := decide (n0 ≤ 65536 ∧ n1 = n0 ∧ ds.length = n0 ∧ ds.sum ≤ 65536)
theorem sum_take_succ (ds : List Nat) (k : Nat) (h : k < ds.length) : (ds.take (k + 1)).sum = (ds.take k).sum + ds[k] := by
  rw [List.take_succ_eq_append_getElem h, List.sum_append]
  simp
set_option maxHeartbeats 2000000 in
theorem guards (a0 a1 a2 : Option Addr) (n0 c0 n1 c1 n2 c2 : Nat) (ds : List Nat) (w : World) (hr : Row w a2 n2 c2 (ds.map fun (d : Nat) => Value.int .u8 (d : Int))) (hd : ∀ d ∈ ds, d ≤ 255) (hs : n0 + n1 + n2 ≤ 1048576) :
    Calls Try.prog 5 #[.slice a0 n0 c0, .slice a1 n1 c1, .slice a2 n2 c2] w fun e w' => e = .returned (.bool (gB n0 n1 ds)) ∧ w = w' := by
  have hl : ds.length = n2 := by simpa using hr.1
  have hg : ∀ b, (b = true ↔ (n0 ≤ 65536 ∧ n1 = n0 ∧ ds.length = n0 ∧ ds.sum ≤ 65536)) → gB n0 n1 ds = b := fun b h => by
    unfold gB
    rw [Bool.eq_iff_iff, decide_eq_true_eq, h]
  by_cases h0 : n0 ≤ 65536
  case neg =>
    rw [hg false ⟨fun h => (by cases h), fun h => absurd h.1 h0⟩]
    clear hg hd hr hl
    go_enter Try.func5, Try.ntmps5
    go_wp2
    go_ret
    exact ⟨rfl, rfl⟩
  by_cases h1 : n1 = n0
  case neg =>
    rw [hg false ⟨fun h => (by cases h), fun h => absurd h.2.1 h1⟩]
    clear hg hd hr hl
    by_cases q1 : n1 ≤ 65536
    · by_cases q2 : n2 ≤ 65536
      · go_enter Try.func5, Try.ntmps5
        go_wp2
        go_ret
        exact ⟨rfl, rfl⟩
      · go_enter Try.func5, Try.ntmps5
        go_wp2
        go_ret
        exact ⟨rfl, rfl⟩
    · go_enter Try.func5, Try.ntmps5
      go_wp2
      go_ret
      exact ⟨rfl, rfl⟩
  by_cases h2 : n2 = n0
  case neg =>
    rw [hg false ⟨fun h => (by cases h), fun h => absurd (hl.symm.trans h.2.2.1) h2⟩]
    clear hg hd hr hl
    by_cases q2 : n2 ≤ 65536
    · go_enter Try.func5, Try.ntmps5
      go_wp2
      go_ret
      exact ⟨rfl, rfl⟩
    · go_enter Try.func5, Try.ntmps5
      go_wp2
      go_ret
      exact ⟨rfl, rfl⟩
  have HR := Lib.hid hr
  have HL := Lib.hid hl
  have HD := Lib.hid hd
  have HG := Lib.hid hg
  clear hr hl hd hg
  generalize gB n0 n1 ds = G at *
  go_enter Try.func5, Try.ntmps5
  go_wp2_with fail
  go_loop [7, 8] (fun t7 t8 => ∃ k s : Nat, k ≤ n2 ∧ s ≤ 255 * k ∧ t8 = .int .i64 (k : Int) ∧ t7 = .int .i64 (s : Int) ∧ Hid (s = (ds.take k).sum)) (fun _ t8 => n2 - (intOf t8).toNat)
  case atStart => exact ⟨0, 0, by omega, by omega, rfl, rfl, Lib.hid rfl⟩
  case round =>
    obtain ⟨k, s, hk, hsk, rfl, rfl, HS⟩ := hrel
    by_cases hkn : k < n2
    · have hkl : k < ds.length := by have := HL.out; omega
      obtain ⟨b, off, rfl, hb, hc⟩ := HR.out.2.2.2.2 (by omega)
      have c1 := hc k (by simpa using hkl)
      rw [List.getElem_map] at c1
      have hv := HD.out _ (List.getElem_mem hkl)
      have HN := Lib.hid (show s + ds[k] = (ds.take (k + 1)).sum by rw [sum_take_succ ds k hkl, ← HS.out])
      generalize ds[k] = v at *
      clear hc hb
      go_wp2_with fail
      go_round
      case rel => exact ⟨k + 1, s + v, by omega, by omega, by go_num, by go_num, HN⟩
      case measure => simp [intOf]; omega
    · obtain rfl : k = n2 := by omega
      have hsum : s = ds.sum := by rw [HS.out, List.take_of_length_le (by have := HL.out; omega)]
      by_cases hq : s ≤ 65536
      · have hG := HG.out true ⟨fun _ => ⟨h0, h1, HL.out.trans h2, by omega⟩, fun _ => rfl⟩
        subst hG
        clear hsum
        go_wp2_with fail
        go_ret
        exact ⟨by show Ending.returned (.bool (decide ((s : Int) ≤ 65536))) = _; rw [decide_eq_true (by omega)], rfl⟩
      · have hG := HG.out false ⟨fun h => (by cases h), fun h => absurd h.2.2.2 (by omega)⟩
        subst hG
        clear hsum
        go_wp2_with fail
        go_ret
        exact ⟨by show Ending.returned (.bool (decide ((s : Int) ≤ 65536))) = _; rw [decide_eq_false (by omega)], rfl⟩
end Go.Proofs.Ytolphikbppmobab.mj
