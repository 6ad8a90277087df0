/-
  The walk of FnNewlinePastLineLimitRestartsLine: If printNewlinePastLineLimit broke the line, the current line length afterwards is the indentation just printed, even and within a positive line limit; otherwise it is the old last line's length, below the limit.
  Conditions: none beyond those of the given statement Rows.FnNewlinePastLineLimitRestartsLineSaid.
-/
import Derived.Test.YtgoffcpchgepeaaRows
import Derived.WalkKit
import Derived.ProofKit
import Derived.OpenShut
import Derived.ShutString
import Derived.ChangeOld
import Derived.Below
import Derived.Test.YtgoffcpchgepeaaPast
import Derived.Test.YtgoffcpchgepeaaIndent2
import Derived.Test.YtgoffcpchgepeaaCloneB
namespace Go.Proofs.Ytgoffcpchgepeaa.fnNewlinePastLineLimitRestartsLine
open Go.ChangeShapes Go.WideShapes Go.ChangeAt Go.RowKit
open Go.ChangeMaps (open_string shut_string)
set_option linter.unusedVariables false


/-- WHAT THE WALK IS TOLD OF A SLICE OF INTEGERS THAT CAME IN: it is nil; or it leads to a row of 'cap' cells, the numbers 'zs' (the first 'len' are its elements, the rest its spare room), each fitting its kind. -/
def IsRow (k : IntKind) (w : World) (a : Option Addr) (len cap : Nat) (zs : List Int) : Prop :=
  (a = none ∧ len = 0 ∧ cap = 0 ∧ zs = []) ∨
  ∃ x, a = some x ∧ len ≤ cap ∧ cap ≤ maxLen ∧ zs.length = cap ∧ (∀ i, i < zs.length → w.cell? (x.add i) = some (.int k (zs.getD i 0))) ∧ ∀ n ∈ zs, (Lit.int k n).wf = true

open kit pr line indent past
theorem bytes_ok (A : Option Addr) (n cap : Nat) (b : Bool) (x y : Int) (w : World) (hn : n ≤ 1048576) :
    Calls Try.prog 33 #[.slice A n cap, .bool b, .int .i64 x, .int .i64 y] w fun e w' => e = .returned (.bool true) ∧ w = w' := by
  go_enter Try.func33, Try.ntmps33
  go_wp2
  go_ret
  exact ⟨rfl, rfl⟩
theorem bytes_no (A : Option Addr) (n cap : Nat) (b : Bool) (x y : Int) (w : World) (hn : 1048576 < n) :
    Calls Try.prog 33 #[.slice A n cap, .bool b, .int .i64 x, .int .i64 y] w fun e w' => e = .returned (.bool false) ∧ w = w' := by
  go_enter Try.func33, Try.ntmps33
  go_wp2
  go_ret
  exact ⟨rfl, rfl⟩
theorem js265 (w : World) (g : Nat) (cs : List Value) (a : Option Addr) (c : Nat) (xs : List Int) (h : Pr w g cs a c xs) :
    Calls Try.prog 38 #[.pointer (some ⟨g, 0, none⟩)] w fun e w' => e = .returned (.slice a xs.length c) ∧ w = w' := by
  have hc : w.cell? ⟨g, 9, none⟩ = some (.slice a xs.length c) := h.jcell
  clear h
  generalize xs.length = n at *
  go_enter Try.func38, Try.ntmps38
  go_wp2
  go_ret
  exact ⟨rfl, rfl⟩
theorem zzstays (w : World) (g : Nat) (cs : List Value) (a : Option Addr) (c : Nat) (xs : List Int) (h : Calls Try.prog 73 #[.pointer (some ⟨g, 0, none⟩)] w (Stays w g cs a c xs)) :
    Calls Try.prog 36 #[.pointer (some ⟨g, 0, none⟩)] w (Stays w g cs a c xs) := by
  have HC := Lib.hid h
  clear h
  go_enter Try.func36, Try.ntmps36
  go_wp2_with fail
  refine HC.out.mono ?_
  rintro e w2 ⟨cs2, rfl, hr⟩
  have HR := Lib.hid hr
  clear hr
  go_wp2
  go_ret
  exact ⟨cs2, rfl, HR.out⟩
theorem zzbroken (w : World) (g : Nat) (a : Option Addr) (xs : List Int) (m : Nat) (h : Calls Try.prog 73 #[.pointer (some ⟨g, 0, none⟩)] w (Broken w g a xs m)) :
    Calls Try.prog 36 #[.pointer (some ⟨g, 0, none⟩)] w (Broken w g a xs m) := by
  have HC := Lib.hid h
  clear h
  go_enter Try.func36, Try.ntmps36
  go_wp2_with fail
  refine HC.out.mono ?_
  rintro e w2 ⟨cs2, a2, c2, rfl, hr⟩
  have HR := Lib.hid hr
  clear hr
  go_wp2
  go_ret
  exact ⟨cs2, a2, c2, rfl, HR.out⟩
set_option maxHeartbeats 2000000 in
theorem model (A : Option Addr) (n cap : Nat) (xs : List Int) (w : World) (hr : Row w A n cap (xs.map (Value.int .u8))) (hn : n ≤ 1048576) :
    Calls Try.prog 39 #[.slice A n cap] w fun e w' => e = .returned (.int .i64 ((n : Int) - (lsU xs n : Int))) ∧ w = w' := by
  have hlen : xs.length = n := by simpa using hr.1
  have HR := Lib.hid hr
  have HL := Lib.hid hlen
  clear hr hlen
  go_enter Try.func39, Try.ntmps39
  go_wp2
  go_loop [3, 4] (fun t u => ∃ k : Nat, k ≤ n ∧ t = .int .i64 (lsU xs k : Int) ∧ u = .int .i64 (k : Int)) (fun _ u => n - (intOf u).toNat)
  case atStart => exact ⟨0, by omega, rfl, rfl⟩
  case round =>
    obtain ⟨i, hi, rfl, rfl⟩ := hrel
    have hli := lsU_le xs i
    by_cases hlt : i < n
    · obtain ⟨b, off, hA, hbl, hcell⟩ := HR.out.2.2.2.2 (by omega)
      subst hA
      have hix : i < xs.length := by rw [HL.out]; exact hlt
      have hci : w.cell? ⟨b, off + i, none⟩ = some (.int .u8 (xs.getD i 0)) := by
        rw [hcell i (by simpa using hix)]; simp [hix]
      clear hcell hbl
      have s1 := @lsU_nl xs i
      have s2 := @lsU_no xs i
      cases hnl : isNl (xs.getD i 0)
      · have S2 := Lib.hid (s2 hnl)
        have x1 : (xs.getD i 0 == 13) = false := by simp only [isNl, Bool.or_eq_false_iff] at hnl; exact hnl.1
        have x2 : (xs.getD i 0 == 10) = false := by simp only [isNl, Bool.or_eq_false_iff] at hnl; exact hnl.2
        clear hnl s1 s2
        generalize xs.getD i 0 = y at *
        go_wp2
        go_round
        case rel => exact ⟨i + 1, by omega, by rw [S2.out], by go_num⟩
        case measure => simp [intOf]; omega
      · have S1 := Lib.hid (s1 hnl)
        have x3 : (xs.getD i 0 == 10) = true ∨ ((xs.getD i 0 == 10) = false ∧ (xs.getD i 0 == 13) = true) := by
          simp only [isNl, Bool.or_eq_true] at hnl
          rcases bools (xs.getD i 0 == 10) with q | q
          · rw [q] at hnl; right; exact ⟨q, by simpa using hnl⟩
          · exact .inl q
        clear hnl s1 s2
        generalize xs.getD i 0 = y at *
        rcases x3 with x1 | ⟨x1, x2⟩
        all_goals
          go_wp2
          go_round
          case rel => exact ⟨i + 1, by omega, by rw [S1.out]; go_num, by go_num⟩
          case measure => simp [intOf]; omega
    · obtain rfl : i = n := by omega
      go_wp2
      go_ret
      exact ⟨rfl, rfl⟩

theorem lsU_broken (xs : List Int) (j q : Nat) (hq : q ≤ j) : lsU (xs ++ [10] ++ List.replicate j 32) (xs.length + 1 + q) = xs.length + 1 := by
  induction q with
  | zero =>
    apply lsU_nl
    rw [List.append_assoc, List.getD_eq_getElem?_getD, List.getElem?_append_right (Nat.le_refl _), Nat.sub_self]
    rfl
  | succ q ih =>
    have h := ih (by omega)
    have e : lsU (xs ++ [10] ++ List.replicate j 32) (xs.length + 1 + q + 1) = lsU (xs ++ [10] ++ List.replicate j 32) (xs.length + 1 + q) := by
      apply lsU_no
      rw [List.getD_eq_getElem?_getD, List.getElem?_append_right (by simp), List.getElem?_replicate]
      rw [if_pos (by simp; omega)]
      rfl
    exact e.trans h
theorem lsU_old (xs : List Int) (j : Nat) : lsU (xs ++ [10] ++ List.replicate j 32) xs.length = lsU xs xs.length := by
  rw [List.append_assoc]; exact lsU_app _ _ _ (Nat.le_refl _)

set_option maxRecDepth 100000 in
set_option maxHeartbeats 8000000 in
theorem main (A : Option Addr) (cap : Nat) (xs : List Int) (mw : Bool) (ind lim : Int) (w : World) (hr : Row w A xs.length cap (xs.map (Value.int .u8))) (hn : xs.length ≤ 1048576) (hi0 : -9223372036854775808 ≤ ind) (hi1 : ind ≤ 65536) (hl0 : -9223372036854775808 ≤ lim) (hl1 : lim ≤ 9223372036854775807) :
    Calls Try.prog 6 #[.slice A xs.length cap, .bool mw, .int .i64 ind, .int .i64 lim] w fun e w' => e = .returned (.bool true) ∧ Below w.heap.size w w' := by
  have HR := Lib.hid hr
  have HI0 := Lib.hid hi0
  clear hr hi0 hl0
  have hle := lsU_le xs xs.length
  go_enter Try.func6, Try.ntmps6
  go_wp2_with fail
  refine (bytes_ok A xs.length cap mw ind lim w hn).mono ?_
  rintro e w' ⟨rfl, rfl⟩
  go_wp2_with fail
  refine (cloneB.run A xs.length cap xs w HR.out (by omega)).mono ?_
  rintro e w1 ⟨a1, rfl, hown1, _, hk1⟩
  have O1 := Lib.hid hown1
  have K1 := Lib.hid hk1
  clear hown1 hk1
  go_wp2_with fail
  refine (cloneB.run a1 xs.length xs.length xs w1 (Row.of_own O1.out) (by omega)).mono ?_
  rintro e w2 ⟨a2, rfl, hown2, _, hk2⟩
  have O2 := Lib.hid hown2
  have K2 := Lib.hid hk2
  clear hown2 hk2
  go_wp2_with fail
  refine (new265 w2 a1 xs.length xs mw false ind lim (own_mono (own_kept O1.out K2.out) (Nat.zero_le _))).mono ?_
  rintro e w3 ⟨cs1, rfl, hp1, h25, h26, h28, h69, h70, _, h59, hk3⟩
  have hab : ∀ k, a1.map (·.block) = some k → w.heap.size ≤ k := fun k hk => (own_lt O1.out k hk).1
  by_cases hlt : (xs.length : Int) - (lsU xs xs.length : Int) < lim
  · have HC := Lib.hid (zzstays w3 _ cs1 a1 xs.length xs (past_no w3 w2.heap.size cs1 a1 xs.length xs lim hp1 h69 h70 h26 (by omega) hlt))
    have K3 := Lib.hid hk3
    clear hp1 h25 h26 h28 h69 h70 h59 hk3
    go_wp2_with fail
    refine HC.out.mono ?_
    rintro e w4 ⟨cs4, rfl, hp4, e69, e70, hs4⟩
    have HZ := Lib.hid (zzline w4 w2.heap.size cs4 a1 xs.length xs xs.length hp4 e69 e70 (Nat.le_refl _) (by omega))
    have HS4 := Lib.hid hs4
    clear hp4 e69 e70 hs4
    go_wp2_with fail
    refine HZ.out.mono ?_
    rintro e w5 ⟨cs5, rfl, hp5, _, _, _, hs5⟩
    have HJ := Lib.hid (js265 w5 w2.heap.size cs5 a1 xs.length xs hp5)
    have hb : Below w.heap.size w w5 := by
      have b1 : Below w.heap.size w w3 := (K1.out.trans (K2.out.trans K3.out)).below
      have b2 : Below w.heap.size w3 w4 := HS4.out.below (Nat.le_trans K1.out.size K2.out.size) (by simp) b1.size
      have b3 : Below w.heap.size w4 w5 := hs5.below (Nat.le_trans K1.out.size K2.out.size) (by simp) (Nat.le_trans b1.size HS4.out.size)
      exact Below.trans (Below.trans b1 b2) b3
    have hrow5 : Row w5 a2 xs.length xs.length (xs.map (Value.int .u8)) := by
      have r3 := (Row.of_own O2.out).kept K3.out
      have hsz : ∀ b, a2.map (·.block) = some b → b < w2.heap.size := fun b hb => (own_lt O2.out b hb).2
      have r4 := r3.far (w2 := w4) HS4.out.size (fun b hb hb2 => HS4.out.block b hb (Nat.ne_of_lt (hsz b hb2)) (by simp))
      exact r4.far (w2 := w5) hs5.size (fun b hb hb2 => hs5.block b hb (Nat.ne_of_lt (hsz b hb2)) (by simp))
    have HM := Lib.hid (model a2 xs.length xs.length xs w5 hrow5 hn)
    have HB := Lib.hid hb
    clear hp5 hs5 hb hrow5
    have hd : decide ((xs.length : Int) - (lsU xs xs.length : Int) < lim) = true := by simpa using hlt
    generalize (xs.length : Int) - (lsU xs xs.length : Int) = v at *
    go_wp2_with fail
    refine HJ.out.mono ?_
    rintro e w6 ⟨rfl, rfl⟩
    go_wp2_with fail
    refine HM.out.mono ?_
    rintro e w6 ⟨rfl, rfl⟩
    go_wp2
    go_ret
    exact ⟨rfl, HB.out⟩
  · obtain ⟨m, hm1, hm2, hind⟩ := indent.any w2.heap.size cs1 mw ind lim h25 h26 h28 h59 HI0.out hi1 (by omega)
    have HC := Lib.hid (zzbroken w3 _ a1 xs m (past_yes w3 w2.heap.size cs1 a1 xs.length xs lim m hp1 h69 h70 h26 (by omega) hlt hind))
    have K3 := Lib.hid hk3
    clear hp1 h25 h26 h28 h69 h70 h59 hk3 hind
    go_wp2_with fail
    refine HC.out.mono ?_
    rintro e w4 ⟨cs4, a4, c4, rfl, hp4, e69, e70, hs4⟩
    have hol : (xs ++ [10] ++ List.replicate (2 * m) 32).length = xs.length + 1 + 2 * m := by rw [List.length_append, List.length_append, List.length_replicate]; rfl
    have hlo := lsU_old xs (2 * m)
    have hlb := lsU_broken xs (2 * m) (2 * m) (Nat.le_refl _)
    have HZ := Lib.hid (zzline w4 w2.heap.size cs4 a4 c4 _ xs.length hp4 (by rw [hlo]; exact e69) e70 (by rw [hol]; omega) (by rw [hol]; omega))
    have HS4 := Lib.hid hs4
    have HOL := Lib.hid hol
    have HLB := Lib.hid hlb
    clear hp4 e69 e70 hs4 hol hlo hlb
    go_wp2_with fail
    refine HZ.out.mono ?_
    rintro e w5 ⟨cs5, rfl, hp5, _, _, _, hs5⟩
    have HJ := Lib.hid (js265 w5 w2.heap.size cs5 a4 c4 _ hp5)
    have hb : Below w.heap.size w w5 := by
      have b1 : Below w.heap.size w w3 := (K1.out.trans (K2.out.trans K3.out)).below
      have b2 : Below w.heap.size w3 w4 := HS4.out.below (Nat.le_trans K1.out.size K2.out.size) hab b1.size
      have b3 : Below w.heap.size w4 w5 := hs5.below (Nat.le_trans K1.out.size K2.out.size) (by simp) (Nat.le_trans b1.size HS4.out.size)
      exact Below.trans (Below.trans b1 b2) b3
    have HB := Lib.hid hb
    clear hp5 hs5 hb hab
    rw [HOL.out, HLB.out]
    have HJ2 := HJ.out
    rw [HOL.out] at HJ2
    have HJ3 := Lib.hid HJ2
    clear HJ2
    have v1 : ((xs.length + 1 + 2 * m : Nat) : Int) - ((xs.length + 1 : Nat) : Int) = 2 * (m : Int) := by omega
    rw [v1]
    have v2 : ((xs.length + 1 + 2 * m : Nat) : Int) - (xs.length : Int) - 1 = 2 * (m : Int) := by omega
    have hx0 : (xs.length : Int) ≤ 1048576 := by omega
    have hm0 : (m : Int) ≤ 1048576 := by omega
    generalize hN : xs.length + 1 + 2 * m = N at *
    have v3 : (N : Int) - (xs.length : Int) = 2 * (m : Int) + 1 := by omega
    have v4 : 2 * (m : Int) + 1 - 1 = 2 * (m : Int) := by omega
    have v5 : (2 * (m : Int)) % 2 = 0 := by omega
    have hNb : N ≤ 4194304 := by omega
    clear hN v2
    by_cases hp : 0 < lim
    · have hq := hm2 hp
      have hd : decide (lim < 2 * (m : Int)) = false := by simp; omega
      go_wp2_with fail
      refine HJ3.out.mono ?_
      rintro e w6 ⟨rfl, rfl⟩
      go_wp2
      go_ret
      exact ⟨rfl, HB.out⟩
    · go_wp2_with fail
      refine HJ3.out.mono ?_
      rintro e w6 ⟨rfl, rfl⟩
      go_wp2
      go_ret
      exact ⟨rfl, HB.out⟩

theorem walk (a0 : Option Addr) (len0 cap0 : Nat) (z0 : List Int) (a1 : Bool) (a2 : Int) (a3 : Int) (w : World) (w0 : IsRow .u8 w a0 len0 cap0 z0) (w2 : (Lit.int .i64 a2).wf = true) (w3 : (Lit.int .i64 a3).wf = true) :
    Calls Try.prog 6 #[.slice a0 len0 cap0, .bool a1, .int .i64 a2, .int .i64 a3] w fun e w' => e = .returned (.bool true) ∧ Below w.heap.size w w' := by
  have hrow : Row w a0 len0 cap0 ((z0.take len0).map (Value.int .u8)) := by
    rcases w0 with ⟨rfl, rfl, rfl, rfl⟩ | ⟨x, rfl, hl, hm, hz, hcell, hwz⟩
    · exact Row.nil w
    · exact Row.of_cells hl hm hz hcell
  have b2 := bounds_i64 w2
  have b3 := bounds_i64 w3
  have HR := Lib.hid hrow
  clear w2 w3 w0 hrow
  by_cases c1 : 1048576 < len0
  · clear b2 b3
    go_enter Try.func6, Try.ntmps6
    go_wp2_with fail
    refine (bytes_no a0 len0 cap0 a1 a2 a3 w c1).mono ?_
    rintro e w' ⟨rfl, rfl⟩
    go_wp2
    go_ret
    exact ⟨rfl, Below.refl _ _⟩
  by_cases c2 : 65536 < a2
  · clear b2 b3
    go_enter Try.func6, Try.ntmps6
    go_wp2_with fail
    refine (bytes_ok a0 len0 cap0 a1 a2 a3 w (by omega)).mono ?_
    rintro e w' ⟨rfl, rfl⟩
    go_wp2
    go_ret
    exact ⟨rfl, Below.refl _ _⟩
  have hr := HR.out
  have hl : (z0.take len0).length = len0 := by simpa using hr.1
  have hm := main a0 cap0 (z0.take len0) a1 a2 a3 w (by rw [hl]; exact hr) (by rw [hl]; omega) b2.1 (by omega) b3.1 b3.2
  rw [hl] at hm
  exact hm
end Go.Proofs.Ytgoffcpchgepeaa.fnNewlinePastLineLimitRestartsLine
