/-
  The law's guards over this seat's program: the weights, the links' validity.
  Conditions: the slices are readable.
-/
import Derived.Test.YtcndjkndmmcagaaDoorRt
import Derived.Test.YtcndjkndmmcagaaDoorSl
import Derived.LoopTactic
import Derived.Outline
import Derived.OwnWalk
namespace Go.Proofs.YtcndjkndmmcagaaDoor.mp
open Go.ChangeShapes Go.WideShapes Go.ChangeAt Go.RowKit
open kit chain arena

def AnyInt (w : World) (e : Ending) (w' : World) : Prop := ∃ z : Int, e = .returned (.int .i64 z) ∧ (0 ≤ z ∧ z ≤ 4194304) ∧ w = w'
def YesBool (w : World) (p : Prop) (e : Ending) (w' : World) : Prop := ∃ b : Bool, e = .returned (.bool b) ∧ (b = true → p) ∧ w = w'
def Small (n : Nat) (ss : List ByteArray) : Prop := ∀ i, i < n → (ss.getD i ByteArray.empty).size ≤ 1048576
theorem Small.step {k : Nat} {ss : List ByteArray} (h : Small k ss) (hk : (ss.getD k ByteArray.empty).size ≤ 1048576) : Small (k + 1) ss := fun i hi => by
  by_cases e : i = k
  · rw [e]; exact hk
  · exact h i (by omega)

def SmallU (n : Nat) (vs : List Value) : Prop := ∀ i, i < n → ∃ a k c, vs.getD i (.slice none 0 0) = .slice a k c ∧ k ≤ 1048576
theorem SmallU.step {k : Nat} {vs : List Value} (h : SmallU k vs) {a : Option Addr} {m c : Nat} (e : vs.getD k (.slice none 0 0) = .slice a m c) (hk : m ≤ 1048576) : SmallU (k + 1) vs := fun i hi => by
  by_cases q : i = k
  · rw [q]; exact ⟨a, m, c, e, hk⟩
  · exact h i (by omega)
def Lp (n : Nat) (ss : List ByteArray) (x t : Value) : Prop := ∃ (k : Nat) (y : Int), k ≤ n ∧ t = .int .i64 (k : Int) ∧ x = .int .i64 y ∧ (0 ≤ y ∧ y ≤ 1048576) ∧ Hid (Small k ss)
def Lu (n : Nat) (vs : List Value) (x t : Value) : Prop := ∃ (k : Nat) (y : Int), k ≤ n ∧ t = .int .i64 (k : Int) ∧ x = .int .i64 y ∧ (0 ≤ y ∧ y ≤ 1048576) ∧ Hid (SmallU k vs)

set_option maxRecDepth 100000 in
set_option maxHeartbeats 16000000 in
theorem bytes (a0 : Option Addr) (n0 c0 : Nat) (a1 : Option Addr) (n1 c1 : Nat) (t : Int) (a3 : Option Addr) (n3 c3 : Nat) (ss : List ByteArray) (a4 : Option Addr) (n4 c4 : Nat) (a5 : Option Addr) (n5 c5 : Nat) (vs : List Value) (r : Int) (nm : ByteArray) (w : World) (h3 : Strs w a3 n3 ss) (h5 : Rows16 w a5 n5 vs)
    (m0 : n0 ≤ 9223372036854775807) (m1 : n1 ≤ 9223372036854775807) (m3 : n3 ≤ 9223372036854775807) (m4 : n4 ≤ 9223372036854775807) (m5 : n5 ≤ 9223372036854775807) :
    Calls Tryd.prog 4 #[.slice a0 n0 c0, .slice a1 n1 c1, .int .i32 t, .slice a3 n3 c3, .slice a4 n4 c4, .slice a5 n5 c5, .int .u32 r, .string nm] w (YesBool w (Small n3 ss ∧ SmallU n5 vs ∧ nm.size ≤ 1048576)) := by
  have H3 := Lib.hid h3
  have H5 := Lib.hid h5
  clear h3 h5
  by_cases q : 1048576 < n0
  · go_enter Tryd.func4, Tryd.ntmps4
    go_wp2_with fail
    go_ret
    exact ⟨false, rfl, fun h => (by cases h), rfl⟩
  by_cases q : 1048576 < n1
  · go_enter Tryd.func4, Tryd.ntmps4
    go_wp2_with fail
    go_ret
    exact ⟨false, rfl, fun h => (by cases h), rfl⟩
  by_cases q : 1048576 < n0 + n1
  · go_enter Tryd.func4, Tryd.ntmps4
    go_wp2_with fail
    go_ret
    exact ⟨false, rfl, fun h => (by cases h), rfl⟩
  by_cases q : 1048576 < n3
  · go_enter Tryd.func4, Tryd.ntmps4
    go_wp2_with fail
    go_ret
    exact ⟨false, rfl, fun h => (by cases h), rfl⟩
  by_cases q : 1048576 < n0 + n1 + n3
  · go_enter Tryd.func4, Tryd.ntmps4
    go_wp2_with fail
    go_ret
    exact ⟨false, rfl, fun h => (by cases h), rfl⟩
  go_enter Tryd.func4, Tryd.ntmps4
  go_wp2_with fail
  go_loop [17, 18] (fun x t => Lp n3 ss x t) (fun _ t => n3 - (intOf t).toNat)
  case atStart => exact ⟨0, _, by omega, rfl, rfl, by omega, Lib.hid (fun i hi => absurd hi (by omega))⟩
  case round =>
    obtain ⟨k, y, hk, rfl, rfl, hy, HS⟩ := hrel
    by_cases hlt : k < n3
    · obtain ⟨b, off, rfl, hb, hc⟩ := H3.out.2 (by omega)
      have x0 := hc k hlt
      have hki : (k : Int) < (n3 : Int) := by omega
      have HST := Lib.hid (fun hk => HS.out.step (k := k) hk)
      clear hc
      generalize ss.getD k ByteArray.empty = s0 at *
      by_cases q : 1048576 < s0.size
      · go_wp2_with fail
        go_ret
        exact ⟨false, rfl, fun h => (by cases h), rfl⟩
      have HSN := Lib.hid (HST.out (by omega))
      by_cases q : 1048576 < y + (s0.size : Int)
      · go_wp2_with fail
        go_ret
        exact ⟨false, rfl, fun h => (by cases h), rfl⟩
      have HRR : Hid (Lp n3 ss (.int .i64 (y + (s0.size : Int))) (.int .i64 ((k : Int) + 1))) := Lib.hid ⟨k + 1, _, by omega, by go_num, rfl, by omega, HSN⟩
      clear HST HS HSN
      go_wp2_with fail
      go_round
      case rel => first | exact HRR.out | ((repeat apply Exists.intro); exact ⟨HRR.out, rfl⟩)
      case measure => simp [intOf]; omega
    · obtain rfl : k = n3 := by omega
      have HS0 := Lib.hid HS.out
      clear HS
      by_cases q : 1048576 < n4
      · go_wp2_with fail
        go_ret
        exact ⟨false, rfl, fun h => (by cases h), rfl⟩
      by_cases q : 1048576 < y + (n4 : Int)
      · go_wp2_with fail
        go_ret
        exact ⟨false, rfl, fun h => (by cases h), rfl⟩
      by_cases q : 1048576 < n5
      · go_wp2_with fail
        go_ret
        exact ⟨false, rfl, fun h => (by cases h), rfl⟩
      by_cases q : 1048576 < y + (n4 : Int) + (n5 : Int)
      · go_wp2_with fail
        go_ret
        exact ⟨false, rfl, fun h => (by cases h), rfl⟩
      go_wp2_with fail
      go_loop [17, 19] (fun x t => Lu n5 vs x t) (fun _ t => n5 - (intOf t).toNat)
      case atStart => exact ⟨0, _, by omega, rfl, rfl, by omega, Lib.hid (fun i hi => absurd hi (by omega))⟩
      case round =>
        obtain ⟨j, y, hj, rfl, rfl, hy, HS⟩ := hrel
        by_cases hlt : j < n5
        · obtain ⟨b, off, rfl, hb, hc⟩ := H5.out.2.2 (by omega)
          obtain ⟨au, nu, cu, zu, eu, ru⟩ := H5.out.2.1 j hlt
          have x0 := hc j hlt
          rw [eu] at x0
          have hki : (j : Int) < (n5 : Int) := by omega
          have HST := Lib.hid (fun hk => HS.out.step (k := j) eu hk)
          have hnu : nu ≤ 9223372036854775807 := by have := ru.2.1; have := ru.2.2.1; unfold maxLen at this; omega
          clear hc ru
          clear eu
          by_cases q : 1048576 < nu
          · go_wp2_with fail
            go_ret
            exact ⟨false, rfl, fun h => (by cases h), rfl⟩
          have HSN := Lib.hid (HST.out (by omega))
          by_cases q : 1048576 < y + (nu : Int)
          · go_wp2_with fail
            go_ret
            exact ⟨false, rfl, fun h => (by cases h), rfl⟩
          have HRR : Hid (Lu n5 vs (.int .i64 (y + (nu : Int))) (.int .i64 ((j : Int) + 1))) := Lib.hid ⟨j + 1, _, by omega, by go_num, rfl, by omega, HSN⟩
          clear HST HS HSN
          go_wp2_with fail
          go_round
          case rel => first | exact HRR.out | ((repeat apply Exists.intro); exact ⟨HRR.out, rfl⟩)
          case measure => simp [intOf]; omega
        · obtain rfl : j = n5 := by omega
          by_cases q : 1048576 < nm.size
          · go_wp2_with fail
            go_ret
            exact ⟨false, rfl, fun h => (by cases h), rfl⟩
          by_cases q : 1048576 < y + (nm.size : Int)
          · go_wp2_with fail
            go_ret
            exact ⟨false, rfl, fun h => (by cases h), rfl⟩
          have HNS := Lib.hid (show nm.size ≤ 1048576 by omega)
          go_wp2_with fail
          go_ret
          exact ⟨true, rfl, fun _ => ⟨HS0.out, HS.out, HNS.out⟩, rfl⟩

def S5 (n : Nat) (x t : Value) : Prop := ∃ (k : Nat) (y : Int), k ≤ n ∧ t = .int .i64 (k : Int) ∧ x = .int .i64 y ∧ (0 ≤ y ∧ y ≤ 1048576)
set_option maxRecDepth 100000 in
set_option maxHeartbeats 4000000 in
theorem sbytes (a : Option Addr) (n c : Nat) (ss : List ByteArray) (w : World) (h : Strs w a n ss) (hs : Small n ss) (hn : n ≤ 65536) :
    Calls Tryd.prog 5 #[.slice a n c] w (AnyInt w) := by
  have H := Lib.hid h
  have HS := Lib.hid hs
  clear h hs
  go_enter Tryd.func5, Tryd.ntmps5
  go_wp2_with fail
  go_loop [3, 4] (fun x t => S5 n x t) (fun _ t => n - (intOf t).toNat)
  case atStart => exact ⟨0, 0, by omega, rfl, rfl, by omega⟩
  case round =>
    obtain ⟨k, y, hk, rfl, rfl, hy⟩ := hrel
    by_cases hlt : k < n
    · obtain ⟨b, off, rfl, hb, hc⟩ := H.out.2 (by omega)
      have x0 := hc k hlt
      have hki : (k : Int) < (n : Int) := by omega
      have hsz := HS.out k hlt
      clear hc
      generalize ss.getD k ByteArray.empty = s0 at *
      by_cases hz2 : 1048576 < y + (16 + (s0.size : Int))
      · go_wp2_with fail
        go_ret
        exact ⟨_, rfl, by omega, rfl⟩
      have HRR : Hid (S5 n (.int .i64 (y + (16 + (s0.size : Int)))) (.int .i64 ((k : Int) + 1))) := Lib.hid ⟨k + 1, _, by omega, by go_num, rfl, by omega⟩
      go_wp2_with fail
      go_round
      case rel => first | exact HRR.out | ((repeat apply Exists.intro); exact ⟨HRR.out, rfl⟩)
      case measure => simp [intOf]; omega
    · obtain rfl : k = n := by omega
      go_wp2_with fail
      go_ret
      exact ⟨_, rfl, by omega, rfl⟩

def S6 (n : Nat) (x t : Value) : Prop := ∃ (k : Nat) (y : Int), k ≤ n ∧ t = .int .i64 (k : Int) ∧ x = .int .i64 y ∧ (0 ≤ y ∧ y ≤ 1048576)
set_option maxRecDepth 100000 in
set_option maxHeartbeats 4000000 in
theorem ubytes (a : Option Addr) (n c : Nat) (vs : List Value) (w : World) (h : Rows16 w a n vs) (hs : SmallU n vs) (hn : n ≤ 65536) :
    Calls Tryd.prog 6 #[.slice a n c] w (AnyInt w) := by
  have H := Lib.hid h
  have HS := Lib.hid hs
  clear h hs
  go_enter Tryd.func6, Tryd.ntmps6
  go_wp2_with fail
  go_loop [3, 4] (fun x t => S6 n x t) (fun _ t => n - (intOf t).toNat)
  case atStart => exact ⟨0, 0, by omega, rfl, rfl, by omega⟩
  case round =>
    obtain ⟨k, y, hk, rfl, rfl, hy⟩ := hrel
    by_cases hlt : k < n
    · obtain ⟨b, off, rfl, hb, hc⟩ := H.out.2.2 (by omega)
      have x0 := hc k hlt
      have hki : (k : Int) < (n : Int) := by omega
      obtain ⟨au, nu, cu, eu, hnu⟩ := HS.out k hlt
      rw [eu] at x0
      clear hc eu
      by_cases hz2 : 1048576 < y + (24 + 2 * (nu : Int))
      · go_wp2_with fail
        go_ret
        exact ⟨_, rfl, by omega, rfl⟩
      have HRR : Hid (S6 n (.int .i64 (y + (24 + 2 * (nu : Int)))) (.int .i64 ((k : Int) + 1))) := Lib.hid ⟨k + 1, _, by omega, by go_num, rfl, by omega⟩
      go_wp2_with fail
      go_round
      case rel => first | exact HRR.out | ((repeat apply Exists.intro); exact ⟨HRR.out, rfl⟩)
      case measure => simp [intOf]; omega
    · obtain rfl : k = n := by omega
      go_wp2_with fail
      go_ret
      exact ⟨_, rfl, by omega, rfl⟩

def V18 (n : Nat) (zs : List Int) (t : Value) : Prop := ∃ k : Nat, k ≤ n ∧ t = .int .i64 (k : Int) ∧ Hid (∀ i, i < k → lk zs i = -1 ∨ (0 ≤ lk zs i ∧ lk zs i < (n : Int)))
set_option maxRecDepth 100000 in
set_option maxHeartbeats 4000000 in
theorem valid (a : Option Addr) (n c : Nat) (zs : List Int) (w : World) (h : Ints .i32 w a n zs) (hb : ∀ j, -2147483648 ≤ lk zs j ∧ lk zs j ≤ 2147483647) (hn : n ≤ 65536) :
    Calls Tryd.prog 18 #[.slice a n c] w (YesBool w (Links n zs)) := by
  have H := Lib.hid h
  have HB := Lib.hid hb
  clear h hb
  go_enter Tryd.func18, Tryd.ntmps18
  go_wp2_with fail
  go_loop [4] (fun t => V18 n zs t) (fun t => n - (intOf t).toNat)
  case atStart => exact ⟨0, by omega, rfl, Lib.hid (fun i hi => absurd hi (by omega))⟩
  case round =>
    obtain ⟨k, hk, rfl, HV⟩ := hrel
    by_cases hlt : k < n
    · obtain ⟨b, off, rfl, hb, hc⟩ := H.out.2 (by omega)
      have x0 : w.cell? ⟨b, off + k, none⟩ = some (.int .i32 (lk zs k)) := hc k hlt
      have hki : (k : Int) < (n : Int) := by omega
      obtain ⟨b0, b1⟩ := HB.out k
      have HVN : Hid ((lk zs k = -1 ∨ (0 ≤ lk zs k ∧ lk zs k < (n : Int))) → V18 n zs (.int .i64 ((k : Int) + 1))) := Lib.hid (fun q => ⟨k + 1, by omega, by go_num, Lib.hid (fun i hi => by
        by_cases e : i = k
        · rw [e]; exact q
        · exact HV.out i (by omega))⟩)
      clear hc HV
      generalize lk zs k = z at *
      by_cases hz : z = -1
      · have HN := Lib.hid (HVN.out (.inl hz))
        subst hz
        clear HVN
        have e1 : ((-1 : Int) != -1) = false := rfl
        go_wp2_with fail
        go_round
        case rel => first | exact HN.out | ((repeat apply Exists.intro); exact ⟨HN.out, rfl⟩)
        case measure => simp [intOf]; omega
      · have e1 : (z != -1) = true := by simp; exact hz
        by_cases h1 : z < 0
        · clear HVN
          go_wp2_with fail
          go_ret
          exact ⟨false, rfl, fun h => (by cases h), rfl⟩
        · by_cases h2 : (n : Int) ≤ z
          · clear HVN
            go_wp2_with fail
            go_ret
            exact ⟨false, rfl, fun h => (by cases h), rfl⟩
          · have HN := Lib.hid (HVN.out (.inr ⟨by omega, by omega⟩))
            clear HVN
            go_wp2_with fail
            go_round
            case rel => first | exact HN.out | ((repeat apply Exists.intro); exact ⟨HN.out, rfl⟩)
            case measure => simp [intOf]; omega
    · obtain rfl : k = n := by omega
      go_wp2_with fail
      go_ret
      exact ⟨true, rfl, fun _ => ⟨H.out.1, HV.out⟩, rfl⟩
end Go.Proofs.YtcndjkndmmcagaaDoor.mp
