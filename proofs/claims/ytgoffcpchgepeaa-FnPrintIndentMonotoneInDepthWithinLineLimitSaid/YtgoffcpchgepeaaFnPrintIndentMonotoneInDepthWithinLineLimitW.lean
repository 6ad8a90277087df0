/-
  The walk of FnPrintIndentMonotoneInDepthWithinLineLimit: printIndent only appends spaces, the indentation at a lesser depth is never wider than at a greater one, and within a positive line limit it never exceeds it.
  Conditions: none beyond those of the given statement Rows.FnPrintIndentMonotoneInDepthWithinLineLimitSaid.
-/
import Derived.Test.YtgoffcpchgepeaaRows
import Derived.WalkKit
import Derived.ProofKit
import Derived.OpenShut
import Derived.ShutString
import Derived.ChangeOld
import Derived.Below
import Derived.Test.YtgoffcpchgepeaaSpaces
import Derived.Test.YtgoffcpchgepeaaCloneC3
namespace Go.Proofs.Ytgoffcpchgepeaa.fnPrintIndentMonotoneInDepthWithinLineLimit
open Go.ChangeShapes Go.WideShapes Go.ChangeAt Go.RowKit
open Go.ChangeMaps (open_string shut_string)
set_option linter.unusedVariables false


/-- WHAT THE WALK IS TOLD OF A SLICE OF INTEGERS THAT CAME IN: it is nil; or it leads to a row of 'cap' cells, the numbers 'zs' (the first 'len' are its elements, the rest its spare room), each fitting its kind. -/
def IsRow (k : IntKind) (w : World) (a : Option Addr) (len cap : Nat) (zs : List Int) : Prop :=
  (a = none ∧ len = 0 ∧ cap = 0 ∧ zs = []) ∨
  ∃ x, a = some x ∧ len ≤ cap ∧ cap ≤ maxLen ∧ zs.length = cap ∧ (∀ i, i < zs.length → w.cell? (x.add i) = some (.int k (zs.getD i 0))) ∧ ∀ n ∈ zs, (Lit.int k n).wf = true

open kit pr spaces
theorem bytes_ok (A : Option Addr) (n cap : Nat) (b d : Bool) (x y z : Int) (w : World) (hn : n ≤ 1048576) :
    Calls Try.prog 40 #[.slice A n cap, .bool b, .bool d, .int .i64 x, .int .i64 y, .int .i64 z] w fun e w' => e = .returned (.bool true) ∧ w = w' := by
  go_enter Try.func40, Try.ntmps40
  go_wp2
  go_ret
  exact ⟨rfl, rfl⟩
theorem bytes_no (A : Option Addr) (n cap : Nat) (b d : Bool) (x y z : Int) (w : World) (hn : 1048576 < n) :
    Calls Try.prog 40 #[.slice A n cap, .bool b, .bool d, .int .i64 x, .int .i64 y, .int .i64 z] w fun e w' => e = .returned (.bool false) ∧ w = w' := by
  go_enter Try.func40, Try.ntmps40
  go_wp2
  go_ret
  exact ⟨rfl, rfl⟩

theorem kept_of_step {w w1 w2 : World} {a a2 : Option Addr} {g : Nat} (hk : Kept w w1) (hs : Step w1 w2 g a a2) (hg : w.heap.size ≤ g) (ha : ∀ k, a.map (·.block) = some k → w.heap.size ≤ k) : Kept w w2 :=
  Below.trans hk (hs.below hg ha hk.size)

set_option maxRecDepth 100000 in
set_option maxHeartbeats 8000000 in
theorem main (A : Option Addr) (cap : Nat) (xs : List Int) (mw nx : Bool) (a b lo hi lim : Int) (w : World) (hr : Row w A xs.length cap (xs.map (Value.int .u8))) (hn : xs.length ≤ 1048576)
    (a0 : -1073741824 ≤ a) (a1 : a ≤ 65536) (b0 : -1073741824 ≤ b) (b1 : b ≤ 65536) (hl1 : lim ≤ 9223372036854775807) (hord : (a ≤ b ∧ lo = a ∧ hi = b) ∨ (b < a ∧ lo = b ∧ hi = a)) :
    Calls Try.prog 7 #[.slice A xs.length cap, .bool mw, .bool nx, .int .i64 a, .int .i64 b, .int .i64 lim] w fun e w' => e = .returned (.bool true) ∧ Below w.heap.size w w' := by
  have hlo0 : -1073741824 ≤ lo := by omega
  have hlo1 : lo ≤ 65536 := by omega
  have hhi0 : -1073741824 ≤ hi := by omega
  have hhi1 : hi ≤ 65536 := by omega
  have hle : lo ≤ hi := by omega
  have m1 := count_mono mw nx lo hi lim hle
  have m2 := count_lim mw nx hi lim
  have m3 := count_le mw nx lo lim hlo1
  have m4 := count_le mw nx hi lim hhi1
  have HR := Lib.hid hr
  have HLM := Lib.hid hl1
  clear hr hl1 hle
  rcases hord with ⟨q, rfl, rfl⟩ | ⟨q, rfl, rfl⟩
  all_goals
    go_enter Try.func7, Try.ntmps7
    go_wp2_with fail
    refine (bytes_ok A xs.length cap mw nx _ _ lim w hn).mono ?_
    rintro e w' ⟨rfl, rfl⟩
    go_wp2_with fail
    refine (cloneC3.run A xs.length cap xs w HR.out (by omega)).mono ?_
    rintro e w1 ⟨r1, rfl, hown1, _, hk1⟩
    have O1 := Lib.hid hown1
    have K1 := Lib.hid hk1
    clear hown1 hk1
    go_wp2_with fail
    refine (cloneC3.run r1 xs.length xs.length xs w1 (Row.of_own O1.out) (by omega)).mono ?_
    rintro e w2 ⟨r2, rfl, hown2, _, hk2⟩
    have O2 := Lib.hid hown2
    have K2 := Lib.hid hk2
    clear hown2 hk2
    go_wp2_with fail
    refine (zzindent w2 r2 xs.length xs mw nx lo lim (own_mono O2.out (Nat.zero_le _)) (by omega) hlo0 hlo1 HLM.out).mono ?_
    rintro e w3 ⟨r3, c3, b3, rfl, hown3, hs3⟩
    have K3 := Lib.hid (kept_of_step K2.out hs3 K2.out.size (fun k hk => (own_lt O2.out k hk).1))
    have hl3 : (xs ++ List.replicate (count mw nx lo lim) 32).length = xs.length + count mw nx lo lim := by rw [List.length_append, List.length_replicate]
    rw [hl3] at hown3 ⊢
    generalize hL3 : xs.length + count mw nx lo lim = L3 at *
    have O3 := Lib.hid hown3
    have HL3 := Lib.hid hL3
    clear hown3 hs3 hl3 hL3
    go_wp2_with fail
    refine (cloneC3.run r1 xs.length xs.length xs w3 ((Row.of_own O1.out).kept K3.out) (by omega)).mono ?_
    rintro e w4 ⟨r4, rfl, hown4, _, hk4⟩
    have O4 := Lib.hid hown4
    have K4 := Lib.hid hk4
    clear hown4 hk4
    go_wp2_with fail
    refine (zzindent w4 r4 xs.length xs mw nx hi lim (own_mono O4.out (Nat.zero_le _)) (by omega) hhi0 hhi1 HLM.out).mono ?_
    rintro e w5 ⟨r5, c5, b5, rfl, hown5, hs5⟩
    have K5 := Lib.hid (kept_of_step K4.out hs5 K4.out.size (fun k hk => (own_lt O4.out k hk).1))
    have hl5 : (xs ++ List.replicate (count mw nx hi lim) 32).length = xs.length + count mw nx hi lim := by rw [List.length_append, List.length_replicate]
    rw [hl5] at hown5 ⊢
    generalize hL5 : xs.length + count mw nx hi lim = L5 at *
    have O5 := Lib.hid hown5
    have HL5 := Lib.hid hL5
    clear hown5 hs5 hl5 hL5
    have hx5 : xs.length ≤ 1048576 := hn
    have HA := Lib.hid (after w5 r3 _ c3 r1 xs.length xs.length xs (count mw nx lo lim) ((Row.of_own O3.out).kept K5.out) (((Row.of_own O1.out).kept K3.out).kept K5.out) (by have := HL3.out; omega))
    have HB2 := Lib.hid (fun (w6 : World) (hk : Kept w5 w6) => after w6 r5 _ c5 r1 xs.length xs.length xs (count mw nx hi lim) ((Row.of_own O5.out).kept hk) ((((Row.of_own O1.out).kept K3.out).kept K5.out).kept hk) (by have := HL5.out; omega))
    generalize count mw nx lo lim = N1 at *
    generalize count mw nx hi lim = N2 at *
    go_wp2_with fail
    refine HA.out.mono ?_
    rintro e w6 ⟨rfl, hk6⟩
    have K6 := Lib.hid hk6
    clear hk6
    go_wp2_with fail
    refine (HB2.out w6 K6.out).mono ?_
    rintro e w7 ⟨rfl, hk7⟩
    have K7 := Lib.hid hk7
    clear hk7
    have d1 : decide ((N1 : Int) < 0) = false := decide_eq_false (by omega)
    have d2 : decide ((N2 : Int) < 0) = false := decide_eq_false (by omega)
    by_cases hp : 0 < lim
    · have hq := m2 hp
      have d4 : decide (lim < (N2 : Int)) = false := by simp; omega
      go_wp2
      go_ret
      exact ⟨rfl, (K1.out.trans (K3.out.trans (K5.out.trans (K6.out.trans K7.out)))).below⟩
    · go_wp2
      go_ret
      exact ⟨rfl, (K1.out.trans (K3.out.trans (K5.out.trans (K6.out.trans K7.out)))).below⟩

theorem walk (a0 : Option Addr) (len0 cap0 : Nat) (z0 : List Int) (a1 : Bool) (a2 : Bool) (a3 : Int) (a4 : Int) (a5 : Int) (w : World) (w0 : IsRow .u8 w a0 len0 cap0 z0) (w3 : (Lit.int .i64 a3).wf = true) (w4 : (Lit.int .i64 a4).wf = true) (w5 : (Lit.int .i64 a5).wf = true) :
    Calls Try.prog 7 #[.slice a0 len0 cap0, .bool a1, .bool a2, .int .i64 a3, .int .i64 a4, .int .i64 a5] w fun e w' => e = .returned (.bool true) ∧ Below w.heap.size w w' := by
  have hrow : Row w a0 len0 cap0 ((z0.take len0).map (Value.int .u8)) := by
    rcases w0 with ⟨rfl, rfl, rfl, rfl⟩ | ⟨x, rfl, hl, hm, hz, hcell, hwz⟩
    · exact Row.nil w
    · exact Row.of_cells hl hm hz hcell
  have b5 := (bounds_i64 w5).2
  have HR := Lib.hid hrow
  have HB5 := Lib.hid b5
  clear w3 w4 w5 w0 hrow b5
  by_cases c1 : 1048576 < len0
  · go_enter Try.func7, Try.ntmps7
    go_wp2_with fail
    refine (bytes_no a0 len0 cap0 a1 a2 a3 a4 a5 w c1).mono ?_
    rintro e w' ⟨rfl, rfl⟩
    go_wp2
    go_ret
    exact ⟨rfl, Below.refl _ _⟩
  by_cases c2 : 65536 < a3 ∨ a3 < -1073741824 ∨ 65536 < a4 ∨ a4 < -1073741824
  · have hs : (65536 < a3) ∨ (¬ 65536 < a3 ∧ a3 < -1073741824) ∨ (¬ 65536 < a3 ∧ ¬ a3 < -1073741824 ∧ 65536 < a4) ∨ (¬ 65536 < a3 ∧ ¬ a3 < -1073741824 ∧ ¬ 65536 < a4 ∧ a4 < -1073741824) := by omega
    clear c2
    rcases hs with q | ⟨q1, q⟩ | ⟨q1, q2, q⟩ | ⟨q1, q2, q3, q⟩
    all_goals
      go_enter Try.func7, Try.ntmps7
      go_wp2_with fail
      refine (bytes_ok a0 len0 cap0 a1 a2 a3 a4 a5 w (by omega)).mono ?_
      rintro e w' ⟨rfl, rfl⟩
      go_wp2
      go_ret
      exact ⟨rfl, Below.refl _ _⟩
  have hr := HR.out
  have hl : (z0.take len0).length = len0 := by simpa using hr.1
  have hord : ∃ lo hi, (a3 ≤ a4 ∧ lo = a3 ∧ hi = a4) ∨ (a4 < a3 ∧ lo = a4 ∧ hi = a3) := by
    by_cases h : a3 ≤ a4
    · exact ⟨a3, a4, .inl ⟨h, rfl, rfl⟩⟩
    · exact ⟨a4, a3, .inr ⟨by omega, rfl, rfl⟩⟩
  obtain ⟨lo, hi, ho⟩ := hord
  have hm := main a0 cap0 (z0.take len0) a1 a2 a3 a4 lo hi a5 w (by rw [hl]; exact hr) (by rw [hl]; omega) (by omega) (by omega) (by omega) (by omega) HB5.out ho
  rw [hl] at hm
  exact hm
end Go.Proofs.Ytgoffcpchgepeaa.fnPrintIndentMonotoneInDepthWithinLineLimit
