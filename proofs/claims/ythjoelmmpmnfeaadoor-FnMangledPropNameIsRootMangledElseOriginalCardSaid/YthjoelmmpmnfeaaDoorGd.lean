/-
  The law's guards over this seat's program: the two weights, the links' validity, the root, the shape.
  Conditions: the slices are readable.
-/
import Derived.Test.YthjoelmmpmnfeaaDoorRt
import Derived.Test.YthjoelmmpmnfeaaDoorSl
import Derived.LoopTactic
import Derived.Outline
import Derived.OwnWalk
namespace Go.Proofs.YthjoelmmpmnfeaaDoor.mp
open Go.ChangeShapes Go.WideShapes Go.ChangeAt Go.RowKit
open kit chain arena

def AnyInt (w : World) (e : Ending) (w' : World) : Prop := ∃ z : Int, e = .returned (.int .i64 z) ∧ (0 ≤ z ∧ z ≤ 4194304) ∧ w = w'
def YesBool (w : World) (p : Prop) (e : Ending) (w' : World) : Prop := ∃ b : Bool, e = .returned (.bool b) ∧ (b = true → p) ∧ w = w'
def Small (n : Nat) (ss : List ByteArray) : Prop := ∀ i, i < n → (ss.getD i ByteArray.empty).size ≤ 1048576
theorem Small.step {k : Nat} {ss : List ByteArray} (h : Small k ss) (hk : (ss.getD k ByteArray.empty).size ≤ 1048576) : Small (k + 1) ss := fun i hi => by
  by_cases e : i = k
  · rw [e]; exact hk
  · exact h i (by omega)

def Lp (n : Nat) (ss : List ByteArray) (x t : Value) : Prop := ∃ (k : Nat) (y : Int), k ≤ n ∧ t = .int .i64 (k : Int) ∧ x = .int .i64 y ∧ (0 ≤ y ∧ y ≤ 1048576) ∧ Hid (Small k ss)

set_option maxRecDepth 100000 in
set_option maxHeartbeats 4000000 in
theorem bytes (a0 : Option Addr) (n0 c0 : Nat) (ss : List ByteArray) (a1 : Option Addr) (n1 c1 : Nat) (a2 : Option Addr) (n2 c2 : Nat) (a3 : Option Addr) (n3 c3 : Nat) (ms : List ByteArray) (r : Int) (w : World) (h0 : Strs w a0 n0 ss) (h3 : Strs w a3 n3 ms)
    (m0 : n0 ≤ 9223372036854775807) (m1 : n1 ≤ 9223372036854775807) (m2 : n2 ≤ 9223372036854775807) (m3 : n3 ≤ 9223372036854775807) :
    Calls Tryd.prog 4 #[.slice a0 n0 c0, .slice a1 n1 c1, .slice a2 n2 c2, .slice a3 n3 c3, .int .u32 r] w (YesBool w (Small n0 ss ∧ Small n3 ms)) := by
  have H0 := Lib.hid h0
  have H3 := Lib.hid h3
  clear h0 h3
  by_cases g0 : 1048576 < n0
  · go_enter Tryd.func4, Tryd.ntmps4
    go_wp2_with fail
    go_ret
    exact ⟨false, rfl, fun h => (by cases h), rfl⟩
  go_enter Tryd.func4, Tryd.ntmps4
  go_wp2_with fail
  go_loop [11, 12] (fun x t => Lp n0 ss x t) (fun _ t => n0 - (intOf t).toNat)
  case atStart => exact ⟨0, n0, by omega, rfl, rfl, by omega, Lib.hid (fun i hi => absurd hi (by omega))⟩
  case round =>
    obtain ⟨k, y, hk, rfl, rfl, hy, HS⟩ := hrel
    by_cases hlt : k < n0
    · obtain ⟨b, off, rfl, hb, hc⟩ := H0.out.2 (by omega)
      have x0 := hc k hlt
      have hki : (k : Int) < (n0 : Int) := by omega
      have HST := Lib.hid (fun hk => HS.out.step (k := k) hk)
      clear hc
      generalize ss.getD k ByteArray.empty = s0 at *
      by_cases hz : 1048576 < s0.size
      · go_wp2_with fail
        go_ret
        exact ⟨false, rfl, fun h => (by cases h), rfl⟩
      have HSN := Lib.hid (HST.out (by omega))
      by_cases hz2 : 1048576 < y + (s0.size : Int)
      · go_wp2_with fail
        go_ret
        exact ⟨false, rfl, fun h => (by cases h), rfl⟩
      have HRR : Hid (Lp n0 ss (.int .i64 (y + (s0.size : Int))) (.int .i64 ((k : Int) + 1))) := Lib.hid ⟨k + 1, _, by omega, by go_num, rfl, by omega, HSN⟩
      clear HST HS HSN
      go_wp2_with fail
      go_round
      case rel => first | exact HRR.out | ((repeat apply Exists.intro); exact ⟨HRR.out, rfl⟩)
      case measure => simp [intOf]; omega
    · obtain rfl : k = n0 := by omega
      have HS0 := Lib.hid HS.out
      clear HS
      by_cases q : 1048576 < n1
      · go_wp2_with fail
        go_ret
        exact ⟨false, rfl, fun h => (by cases h), rfl⟩
      by_cases q : 1048576 < y + (n1 : Int)
      · go_wp2_with fail
        go_ret
        exact ⟨false, rfl, fun h => (by cases h), rfl⟩
      by_cases q : 1048576 < n2
      · go_wp2_with fail
        go_ret
        exact ⟨false, rfl, fun h => (by cases h), rfl⟩
      by_cases q : 1048576 < y + (n1 : Int) + (n2 : Int)
      · go_wp2_with fail
        go_ret
        exact ⟨false, rfl, fun h => (by cases h), rfl⟩
      by_cases q : 1048576 < n3
      · go_wp2_with fail
        go_ret
        exact ⟨false, rfl, fun h => (by cases h), rfl⟩
      by_cases q : 1048576 < y + (n1 : Int) + (n2 : Int) + (n3 : Int)
      · go_wp2_with fail
        go_ret
        exact ⟨false, rfl, fun h => (by cases h), rfl⟩
      go_wp2_with fail
      go_loop [11, 13] (fun x t => Lp n3 ms x t) (fun _ t => n3 - (intOf t).toNat)
      case atStart => exact ⟨0, _, by omega, rfl, rfl, by omega, Lib.hid (fun i hi => absurd hi (by omega))⟩
      case round =>
        obtain ⟨j, y, hj, rfl, rfl, hy, HS⟩ := hrel
        by_cases hlt : j < n3
        · obtain ⟨b, off, rfl, hb, hc⟩ := H3.out.2 (by omega)
          have x0 := hc j hlt
          have hki : (j : Int) < (n3 : Int) := by omega
          have HST := Lib.hid (fun hk => HS.out.step (k := j) hk)
          clear hc
          generalize ms.getD j ByteArray.empty = s0 at *
          by_cases hz : 1048576 < s0.size
          · go_wp2_with fail
            go_ret
            exact ⟨false, rfl, fun h => (by cases h), rfl⟩
          have HSN := Lib.hid (HST.out (by omega))
          by_cases hz2 : 1048576 < y + (s0.size : Int)
          · go_wp2_with fail
            go_ret
            exact ⟨false, rfl, fun h => (by cases h), rfl⟩
          have HRR : Hid (Lp n3 ms (.int .i64 (y + (s0.size : Int))) (.int .i64 ((j : Int) + 1))) := Lib.hid ⟨j + 1, _, by omega, by go_num, rfl, by omega, HSN⟩
          clear HST HS HSN
          go_wp2_with fail
          go_round
          case rel => first | exact HRR.out | ((repeat apply Exists.intro); exact ⟨HRR.out, rfl⟩)
          case measure => simp [intOf]; omega
        · obtain rfl : j = n3 := by omega
          go_wp2_with fail
          go_ret
          exact ⟨true, rfl, fun _ => ⟨HS0.out, HS.out⟩, rfl⟩

def S5 (n : Nat) (x t : Value) : Prop := ∃ (k : Nat) (y : Int), k ≤ n ∧ t = .int .i64 (k : Int) ∧ x = .int .i64 y ∧ (0 ≤ y ∧ y ≤ 1048576)
set_option maxRecDepth 100000 in
set_option maxHeartbeats 4000000 in
theorem sbytes (a : Option Addr) (n c : Nat) (ss : List ByteArray) (w : World) (h : Strs w a n ss) (hs : Small n ss) (hn : n ≤ 65536) :
    Calls Tryd.prog 5 #[.slice a n c] w (AnyInt w) := by
  have H := Lib.hid h
  have HS := Lib.hid hs
  clear h hs
  go_enter Tryd.func5, Tryd.ntmps5
  go_wp2_with fail
  go_loop [3, 4] (fun x t => S5 n x t) (fun _ t => n - (intOf t).toNat)
  case atStart => exact ⟨0, 0, by omega, rfl, rfl, by omega⟩
  case round =>
    obtain ⟨k, y, hk, rfl, rfl, hy⟩ := hrel
    by_cases hlt : k < n
    · obtain ⟨b, off, rfl, hb, hc⟩ := H.out.2 (by omega)
      have x0 := hc k hlt
      have hki : (k : Int) < (n : Int) := by omega
      have hsz := HS.out k hlt
      clear hc
      generalize ss.getD k ByteArray.empty = s0 at *
      by_cases hz2 : 1048576 < y + (16 + (s0.size : Int))
      · go_wp2_with fail
        go_ret
        exact ⟨_, rfl, by omega, rfl⟩
      have HRR : Hid (S5 n (.int .i64 (y + (16 + (s0.size : Int)))) (.int .i64 ((k : Int) + 1))) := Lib.hid ⟨k + 1, _, by omega, by go_num, rfl, by omega⟩
      go_wp2_with fail
      go_round
      case rel => first | exact HRR.out | ((repeat apply Exists.intro); exact ⟨HRR.out, rfl⟩)
      case measure => simp [intOf]; omega
    · obtain rfl : k = n := by omega
      go_wp2_with fail
      go_ret
      exact ⟨_, rfl, by omega, rfl⟩

def V15 (n : Nat) (zs : List Int) (t : Value) : Prop := ∃ k : Nat, k ≤ n ∧ t = .int .i64 (k : Int) ∧ Hid (∀ i, i < k → lk zs i = -1 ∨ (0 ≤ lk zs i ∧ lk zs i < (n : Int)))
set_option maxRecDepth 100000 in
set_option maxHeartbeats 4000000 in
theorem valid (a : Option Addr) (n c : Nat) (zs : List Int) (w : World) (h : Ints .i32 w a n zs) (hb : ∀ j, -2147483648 ≤ lk zs j ∧ lk zs j ≤ 2147483647) (hn : n ≤ 65536) :
    Calls Tryd.prog 15 #[.slice a n c] w (YesBool w (Links n zs)) := by
  have H := Lib.hid h
  have HB := Lib.hid hb
  clear h hb
  go_enter Tryd.func15, Tryd.ntmps15
  go_wp2_with fail
  go_loop [4] (fun t => V15 n zs t) (fun t => n - (intOf t).toNat)
  case atStart => exact ⟨0, by omega, rfl, Lib.hid (fun i hi => absurd hi (by omega))⟩
  case round =>
    obtain ⟨k, hk, rfl, HV⟩ := hrel
    by_cases hlt : k < n
    · obtain ⟨b, off, rfl, hb, hc⟩ := H.out.2 (by omega)
      have x0 : w.cell? ⟨b, off + k, none⟩ = some (.int .i32 (lk zs k)) := hc k hlt
      have hki : (k : Int) < (n : Int) := by omega
      obtain ⟨b0, b1⟩ := HB.out k
      have HVN : Hid ((lk zs k = -1 ∨ (0 ≤ lk zs k ∧ lk zs k < (n : Int))) → V15 n zs (.int .i64 ((k : Int) + 1))) := Lib.hid (fun q => ⟨k + 1, by omega, by go_num, Lib.hid (fun i hi => by
        by_cases e : i = k
        · rw [e]; exact q
        · exact HV.out i (by omega))⟩)
      clear hc HV
      generalize lk zs k = z at *
      by_cases hz : z = -1
      · have HN := Lib.hid (HVN.out (.inl hz))
        subst hz
        clear HVN
        have e1 : ((-1 : Int) != -1) = false := rfl
        go_wp2_with fail
        go_round
        case rel => first | exact HN.out | ((repeat apply Exists.intro); exact ⟨HN.out, rfl⟩)
        case measure => simp [intOf]; omega
      · have e1 : (z != -1) = true := by simp; exact hz
        by_cases h1 : z < 0
        · clear HVN
          go_wp2_with fail
          go_ret
          exact ⟨false, rfl, fun h => (by cases h), rfl⟩
        · by_cases h2 : (n : Int) ≤ z
          · clear HVN
            go_wp2_with fail
            go_ret
            exact ⟨false, rfl, fun h => (by cases h), rfl⟩
          · have HN := Lib.hid (HVN.out (.inr ⟨by omega, by omega⟩))
            clear HVN
            go_wp2_with fail
            go_round
            case rel => first | exact HN.out | ((repeat apply Exists.intro); exact ⟨HN.out, rfl⟩)
            case measure => simp [intOf]; omega
    · obtain rfl : k = n := by omega
      go_wp2_with fail
      go_ret
      exact ⟨true, rfl, fun _ => ⟨H.out.1, HV.out⟩, rfl⟩
end Go.Proofs.YthjoelmmpmnfeaaDoor.mp
