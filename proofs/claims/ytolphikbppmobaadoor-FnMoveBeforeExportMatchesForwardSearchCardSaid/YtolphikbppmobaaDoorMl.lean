/-
  The walk of FnMoveBeforeExportMatchesForwardSearch over this seat's program.
  Conditions: none.
-/
import Derived.Test.YtolphikbppmobaaDoorMf
namespace Go.Proofs.YtolphikbppmobaaDoor.mv
open Go.ChangeShapes Go.WideShapes Go.ChangeAt Go.RowKit

theorem small (s : ByteArray) (n : Int) (h : s.size ≤ 1048576) (w : World) :
    Calls Tryd.prog 4 #[.string s, .int .i64 n] w fun e w' => e = .returned (.bool true) ∧ w = w' := by
  go_enter Tryd.func4, Tryd.ntmps4
  go_wp2
  go_ret
  exact ⟨rfl, rfl⟩
theorem great (s : ByteArray) (n : Int) (h : ¬ s.size ≤ 1048576) (w : World) (hs : s.size ≤ maxLen) :
    Calls Tryd.prog 4 #[.string s, .int .i64 n] w fun e w' => e = .returned (.bool false) ∧ w = w' := by
  unfold maxLen at hs
  go_enter Tryd.func4, Tryd.ntmps4
  go_wp2
  go_ret
  exact ⟨rfl, rfl⟩

/-- what the forward search knows before p: want is i and no match is below p, or want is a match -/
def Rel (l : List UInt8) (i p W : Nat) : Prop := (W = i ∧ ∀ q, q < p → ¬ M l q) ∨ (M l W ∧ W < p)
theorem same (l : List UInt8) (i k p W : Nat) (hl : l.length = i) (hk : k ≤ l.length) (h1 : ∀ j b, k ≤ j → l[j]? = some b → cs.contains b = true) (h2 : ∀ b, 0 < k → l[k - 1]? = some b → cs.contains b = false) (hp : i < p + 6) (h : Rel l i p W) : got l k i = (W : Int) := by
  unfold got
  rcases h with ⟨rfl, h⟩ | ⟨h, _⟩
  · split
    · rename_i hs
      have hm := found hk h1 hs
      have := hm.1
      exact absurd hm (h _ (by omega))
    · rfl
  · obtain ⟨hs, rfl⟩ := only hk h1 h2 h
    rw [if_pos hs]
    have := hs.1
    omega

theorem zz (s : ByteArray) (i k : Nat) (hi : i ≤ s.size) (hm : s.size ≤ 4096) (hk : k ≤ (s.data.toList.take i).length) (hT : Lib.trimRightS (s.data.toList.take i) cs = (s.data.toList.take i).take k) (w : World) :
    Calls Tryd.prog 5 #[.string s, .int .i64 (i : Int)] w fun e w' => e = .returned (.int .i64 (got (s.data.toList.take i) k i)) ∧ Below w.heap.size w w' := by
  have HV := Lib.hid (move s i k hi hm hk hT w)
  clear hk hT
  generalize got (s.data.toList.take i) k i = G at *
  go_enter Tryd.func5, Tryd.ntmps5
  go_wp2_with fail
  refine (HV.out).mono ?_
  rintro e w1 ⟨rfl, hb⟩
  have HB := Lib.hid hb
  clear hb
  go_wp2
  go_ret
  exact ⟨rfl, HB.out⟩

theorem rel_no {l : List UInt8} {i p W : Nat} (h : Rel l i p W) (hn : ¬ M l p) : Rel l i (p + 1) W := by
  rcases h with ⟨h1, h2⟩ | ⟨h1, h2⟩
  · refine .inl ⟨h1, fun q hq => ?_⟩
    by_cases e : q = p
    · subst e; exact hn
    · exact h2 q (by omega)
  · exact .inr ⟨h1, by omega⟩

set_option maxRecDepth 100000 in
set_option maxHeartbeats 4000000 in
theorem main (s : ByteArray) (n : Int) (hs : s.size ≤ maxLen) (hn0 : -9223372036854775808 ≤ n) (hn1 : n ≤ 9223372036854775807) (w : World) :
    Calls Tryd.prog 3 #[.string s, .int .i64 n] w fun e w' => e = .returned (.bool true) ∧ Below w.heap.size w w' := by
  have hmx : maxLen = maxLen := rfl
  by_cases hb : s.size ≤ 1048576
  case neg =>
    have HB := Lib.hid hb
    have HSZ := Lib.hid hs
    clear hmx
    unfold maxLen at hs
    go_enter Tryd.func3, Tryd.ntmps3
    go_wp2_with fail
    refine (great s n HB.out w HSZ.out).mono ?_
    rintro e w' ⟨rfl, rfl⟩
    go_wp2
    go_ret
    exact ⟨rfl, Below.refl _ _⟩
  clear hmx hs
  go_enter Tryd.func3, Tryd.ntmps3
  go_wp2_with fail
  refine (small s n hb w).mono ?_
  rintro e w' ⟨rfl, rfl⟩
  by_cases hsm : s.size ≤ 4096
  case neg =>
    go_wp2
    go_ret
    exact ⟨rfl, Below.refl _ _⟩
  by_cases hneg : n < 0
  case pos =>
    go_wp2
    go_ret
    exact ⟨rfl, Below.refl _ _⟩
  obtain ⟨i, rfl⟩ : ∃ i : Nat, n = (i : Int) := ⟨n.toNat, by omega⟩
  by_cases hi : i ≤ s.size
  case neg =>
    go_wp2
    go_ret
    exact ⟨rfl, Below.refl _ _⟩
  obtain ⟨k, hk, hT, h1, h2⟩ := trimmed (s.data.toList.take i)
  have hll : (s.data.toList.take i).length = i := by rw [List.length_take, len]; omega
  have hM := fun p => M_iff s i p hi
  have hV := fun w => zz s i k hi hsm hk hT w
  have hF := fun p W hp h => same (s.data.toList.take i) i k p W hll hk h1 h2 hp h
  generalize s.data.toList.take i = l at *
  have HV := Lib.hid hV
  have HF := Lib.hid hF
  have HM := Lib.hid hM
  clear hk hT h1 h2 hM hV hF hll
  generalize got l k i = G at *
  go_wp2_with fail
  refine (HV.out w).mono ?_
  rintro e w1 ⟨rfl, hb1⟩
  have HB := Lib.hid hb1
  clear hb1 HV
  go_wp2
  go_loop [6, 7] (fun tw tp => ∃ p W : Nat, p ≤ i ∧ tw = .int .i64 (W : Int) ∧ tp = .int .i64 (p : Int) ∧ W ≤ i ∧ Hid (Rel l i p W)) (fun tw tp => i - (intOf tp).toNat)
  case atStart => exact ⟨0, i, by omega, rfl, rfl, by omega, Lib.hid (.inl ⟨rfl, fun q h => by omega⟩)⟩
  case round =>
    obtain ⟨p, W, hp, rfl, rfl, hW, HR⟩ := hrel
    by_cases hlt : p + 6 ≤ i
    · have hX := HM.out p
      obtain ⟨Y, hY⟩ : ∃ Y, Y = s.extract p (p + 6) := ⟨_, rfl⟩
      have hSL : ∀ wx, (Instr.slice 9 (.string s) (some (.int .i64 (p : Int))) (some (.int .i64 ((p : Int) + 6))) none).run Tryd.prog wx = .ok (.string Y) wx := fun wx => by
        rw [hY]
        exact run_slice_string (P := Tryd.prog) wx 9 s .i64 .i64 (p : Int) ((p : Int) + 6) (by kernel_rfl) (by omega) (by omega) (by omega)
      have hA := all s (p + 6) i hlt hi hsm w1
      rw [show ((p + 6 : Nat) : Int) = (p : Int) + 6 from rfl] at hA
      rw [← hY] at hX
      clear hY
      by_cases hE : Y = EX
      · have hq : Y.toList = [101, 120, 112, 111, 114, 116] := by rw [hE, Lib.toList_data]; rfl
        by_cases hS : Sp s (p + 6) i
        · rw [spB_true hS] at hA
          have HA := Lib.hid hA
          have HN := Lib.hid (show Rel l i (p + 1) p from .inr ⟨hX.2 ⟨hlt, hE, hS⟩, by omega⟩)
          clear hA hE hS hX
          go_wp2_with fail
          refine (HA.out).mono ?_
          rintro e w2 ⟨rfl, rfl⟩
          go_wp2
          go_round
          case rel => exact ⟨p + 1, p, by omega, rfl, by go_num, by omega, HN⟩
          case measure => simp [intOf]; omega
        · rw [spB_false hS] at hA
          have HA := Lib.hid hA
          have HN := Lib.hid (show Rel l i (p + 1) W from rel_no HR.out fun h => hS (hX.1 h).2.2)
          clear hA hE hS hX
          go_wp2_with fail
          refine (HA.out).mono ?_
          rintro e w2 ⟨rfl, rfl⟩
          go_wp2
          go_round
          case rel => exact ⟨p + 1, W, by omega, rfl, by go_num, by omega, HN⟩
          case measure => simp [intOf]; omega
      · have hq : ¬ Y.toList = [101, 120, 112, 111, 114, 116] := fun h => hE (by
          rw [Lib.toList_data] at h
          rw [← Lib.mk_data Y, h]; rfl)
        have HN := Lib.hid (show Rel l i (p + 1) W from rel_no HR.out fun h => hE (hX.1 h).2.1)
        clear hA hE hX
        go_wp2
        go_round
        case rel => exact ⟨p + 1, W, by omega, rfl, by go_num, by omega, HN⟩
        case measure => simp [intOf]; omega
    · have hG := HF.out p W (by omega) HR.out
      subst hG
      go_wp2
      go_ret
      exact ⟨rfl, HB.out⟩
end Go.Proofs.YtolphikbppmobaaDoor.mv
