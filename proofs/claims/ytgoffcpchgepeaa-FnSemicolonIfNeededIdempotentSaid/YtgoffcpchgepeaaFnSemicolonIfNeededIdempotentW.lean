/-
  The walk of FnSemicolonIfNeededIdempotent: Calling printSemicolonIfNeeded twice leaves the same output and the same flag as calling it once.
  Conditions: none beyond those of the given statement Rows.FnSemicolonIfNeededIdempotentSaid.
-/
import Derived.Test.YtgoffcpchgepeaaRows
import Derived.WalkKit
import Derived.ProofKit
import Derived.OpenShut
import Derived.ShutString
import Derived.ChangeOld
import Derived.Below
import Derived.Test.YtgoffcpchgepeaaSemi
import Derived.Test.YtgoffcpchgepeaaClone80
import Derived.Test.YtgoffcpchgepeaaEqb80
namespace Go.Proofs.Ytgoffcpchgepeaa.fnSemicolonIfNeededIdempotent
open Go.ChangeShapes Go.WideShapes Go.ChangeAt Go.RowKit
open Go.ChangeMaps (open_string shut_string)
set_option linter.unusedVariables false


/-- WHAT THE WALK IS TOLD OF A SLICE OF INTEGERS THAT CAME IN: it is nil; or it leads to a row of 'cap' cells, the numbers 'zs' (the first 'len' are its elements, the rest its spare room), each fitting its kind. -/
def IsRow (k : IntKind) (w : World) (a : Option Addr) (len cap : Nat) (zs : List Int) : Prop :=
  (a = none ∧ len = 0 ∧ cap = 0 ∧ zs = []) ∨
  ∃ x, a = some x ∧ len ≤ cap ∧ cap ≤ maxLen ∧ zs.length = cap ∧ (∀ i, i < zs.length → w.cell? (x.add i) = some (.int k (zs.getD i 0))) ∧ ∀ n ∈ zs, (Lit.int k n).wf = true

open kit pr semi
theorem bytes_ok (A : Option Addr) (n cap : Nat) (b : Bool) (w : World) (hn : n ≤ 1048576) :
    Calls Try.prog 13 #[.slice A n cap, .bool b] w fun e w' => e = .returned (.bool true) ∧ w = w' := by
  go_enter Try.func13, Try.ntmps13
  go_wp2
  go_ret
  exact ⟨rfl, rfl⟩
theorem bytes_no (A : Option Addr) (n cap : Nat) (b : Bool) (w : World) (hn : 1048576 < n) :
    Calls Try.prog 13 #[.slice A n cap, .bool b] w fun e w' => e = .returned (.bool false) ∧ w = w' := by
  go_enter Try.func13, Try.ntmps13
  go_wp2
  go_ret
  exact ⟨rfl, rfl⟩
theorem semiOut_twice (b : Bool) (xs : List Int) : semiOut false (semiOut b xs) = semiOut b xs := by simp [semiOut]
theorem semiOut_len (b : Bool) (xs : List Int) : (semiOut b xs).length ≤ xs.length + 1 := by
  cases b <;> simp [semiOut]

set_option maxHeartbeats 4000000 in
theorem main (A : Option Addr) (n cap : Nat) (xs : List Int) (b : Bool) (w : World) (hr : Row w A n cap (xs.map (Value.int .u8))) (hn : n ≤ 1048576) :
    Calls Try.prog 3 #[.slice A n cap, .bool b] w fun e w' => e = .returned (.bool true) ∧ Below w.heap.size w w' := by
  have hlen : xs.length = n := by simpa using hr.1
  subst hlen
  have HR := Lib.hid hr
  clear hr
  go_enter Try.func3, Try.ntmps3
  go_wp2_with fail
  refine (bytes_ok A xs.length cap b w hn).mono ?_
  rintro e w' ⟨rfl, rfl⟩
  go_wp2_with fail
  refine (clone80.run A xs.length cap xs w HR.out (by omega)).mono ?_
  rintro e w1 ⟨a1, rfl, hown1, _, hk1⟩
  have O1 := Lib.hid hown1
  have K1 := Lib.hid hk1
  clear hown1 hk1
  go_wp2_with fail
  refine (clone80.run a1 xs.length xs.length xs w1 (Row.of_own O1.out) (by omega)).mono ?_
  rintro e w2 ⟨a2, rfl, hown2, _, hk2⟩
  have O2 := Lib.hid hown2
  have K2 := Lib.hid hk2
  clear hown2 hk2
  go_wp2_with fail
  refine (new80 w2 a2 xs.length xs b (-1) (own_mono O2.out (Nat.zero_le _))).mono ?_
  rintro e w3 ⟨cs1, rfl, hp1, hb1, hk3⟩
  have P1 := Lib.hid hp1
  have B1 := Lib.hid hb1
  have K3 := Lib.hid hk3
  clear hp1 hb1 hk3
  go_wp2_with fail
  refine (zzsemi w3 w2.heap.size cs1 a2 xs.length xs b P1.out B1.out (by omega)).mono ?_
  rintro e w4 ⟨cs1', a2', c2', rfl, hp1, hb1, hs4⟩
  have P1' := Lib.hid hp1
  have B1' := Lib.hid hb1
  have S4 := Lib.hid hs4
  clear hp1 hb1 hs4
  -- the first copy is untouched
  have L2 := K2.out.size
  have L3 := K3.out.size
  have hbel4 : Below w1.heap.size w1 w4 := Below.trans (K2.out.trans K3.out).below (S4.out.below (B := w1.heap.size) L2 (fun k hk => (own_lt O2.out k hk).1) (Nat.le_trans L2 L3))
  have BE4 := Lib.hid hbel4
  clear hbel4
  go_wp2_with fail
  refine (clone80.run a1 xs.length xs.length xs w4 (Row.of_own (own_below O1.out BE4.out (fun k hk => (O1.out.lt k hk).2))) (by omega)).mono ?_
  rintro e w5 ⟨a3, rfl, hown3, _, hk5⟩
  have O3 := Lib.hid hown3
  have K5 := Lib.hid hk5
  clear hown3 hk5
  go_wp2_with fail
  refine (new80 w5 a3 xs.length xs b (-1) (own_mono O3.out (Nat.zero_le _))).mono ?_
  rintro e w6 ⟨cs2, rfl, hp2, hb2, hk6⟩
  have P2 := Lib.hid hp2
  have B2 := Lib.hid hb2
  have K6 := Lib.hid hk6
  clear hp2 hb2 hk6
  have hp16 := P1'.out.kept (K5.out.trans K6.out)
  have L4 := S4.out.size
  have L5 := K5.out.size
  have L6 := K6.out.size
  have Q1 := Lib.hid hp16
  clear hp16
  have hg12 : w2.heap.size ≠ w5.heap.size := by have := P1.out.blk.lt; omega
  go_wp2_with fail
  refine (zzsemi w6 w5.heap.size cs2 a3 xs.length xs b P2.out B2.out (by omega)).mono ?_
  rintro e w7 ⟨cs2', a3', c3', rfl, hp2, hb2, hs7⟩
  have P2' := Lib.hid hp2
  have B2' := Lib.hid hb2
  have S7 := Lib.hid hs7
  clear hp2 hb2 hs7
  go_wp2_with fail
  refine (zzsemi w7 w5.heap.size cs2' a3' c3' (semiOut b xs) false P2'.out B2'.out (by have := semiOut_len b xs; omega)).mono ?_
  rintro e w8 ⟨cs2'', a3'', c3'', rfl, hp2, hb2, hs8⟩
  rw [semiOut_twice] at hp2
  have P2'' := Lib.hid hp2
  have B2'' := Lib.hid hb2
  have S8 := Lib.hid (S7.out.trans hs8)
  clear hp2 hb2 hs8
  have hrow4 : ∀ k, a2'.map (·.block) = some k → k < w4.heap.size := P1'.out.rowLt
  have ha3 : ∀ k, a3.map (·.block) = some k → w4.heap.size ≤ k := fun k hk => (own_lt O3.out k hk).1
  have hp18 := Q1.out.other S8.out hg12 (P2.out.rowNe Q1.out.blk (by decide)) (fun k hk => ⟨by have := hrow4 k hk; omega, fun e => by have h1 := hrow4 k hk; have h2 := ha3 k e; omega⟩)
  have Q18 := Lib.hid hp18
  clear hp18
  have hbel : Below w.heap.size w w8 := by
    have h1 : Below w.heap.size w w4 := Below.trans K1.out (BE4.out.mono K1.out.size)
    have h2 : Below w.heap.size w w6 := Below.trans h1 ((K5.out.trans K6.out).below.mono h1.size)
    have h3 : Below w.heap.size w6 w8 := S8.out.below (by have := h1.size; omega) (fun k hk => by have := ha3 k hk; have := h1.size; omega) h2.size
    exact Below.trans h2 h3
  have BE8 := Lib.hid hbel
  clear hbel hrow4 ha3 hg12
  have hll := semiOut_len b xs
  have H5 := Lib.hid (js80 w8 w2.heap.size cs1' a2' c2' (semiOut b xs) Q18.out)
  have H6 := Lib.hid (js80 w8 w5.heap.size cs2'' a3'' c3'' (semiOut b xs) P2''.out)
  have H7 := Lib.hid (eqb80.run a2' (semiOut b xs).length c2' (semiOut b xs) a3'' (semiOut b xs).length c3'' (semiOut b xs) w8 (Row.of_own Q18.out.own) (Row.of_own P2''.out.own) (by omega) (by omega))
  generalize (semiOut b xs).length = m at *
  go_wp2_with fail
  refine H5.out.mono ?_
  rintro e w' ⟨rfl, rfl⟩
  go_wp2_with fail
  refine H6.out.mono ?_
  rintro e w' ⟨rfl, rfl⟩
  go_wp2_with fail
  refine H7.out.mono ?_
  rintro e w9 ⟨rfl, hk9⟩
  have K9 := Lib.hid hk9
  clear hk9
  have ht := eqb80.sameB_self (semiOut b xs)
  rw [ht]
  clear ht
  go_wp2_with fail
  refine (needs80 w9 w2.heap.size cs1' false (Q18.out.blk.kept K9.out) B1'.out).mono ?_
  rintro e w' ⟨rfl, rfl⟩
  go_wp2_with fail
  refine (needs80 w9 w5.heap.size cs2'' false (P2''.out.blk.kept K9.out) B2''.out).mono ?_
  rintro e w' ⟨rfl, rfl⟩
  go_wp2
  go_ret
  exact ⟨rfl, Below.trans BE8.out (K9.out.below.mono BE8.out.size)⟩

theorem walk (a0 : Option Addr) (len0 cap0 : Nat) (z0 : List Int) (a1 : Bool) (w : World) (w0 : IsRow .u8 w a0 len0 cap0 z0) :
    Calls Try.prog 3 #[.slice a0 len0 cap0, .bool a1] w fun e w' => e = .returned (.bool true) ∧ Below w.heap.size w w' := by
  have hrow : Row w a0 len0 cap0 ((z0.take len0).map (Value.int .u8)) := by
    rcases w0 with ⟨rfl, rfl, rfl, rfl⟩ | ⟨x, rfl, hl, hm, hz, hcell, hwz⟩
    · exact Row.nil w
    · exact Row.of_cells hl hm hz hcell
  have hml : (len0 : Int) ≤ 9223372036854775807 := by
    have h1 := hrow.2.1; have h2 := hrow.2.2.1; unfold maxLen at h2; omega
  by_cases c1 : 1048576 < len0
  · go_enter Try.func3, Try.ntmps3
    go_wp2_with fail
    refine (bytes_no a0 len0 cap0 a1 w c1).mono ?_
    rintro e w' ⟨rfl, rfl⟩
    go_wp2
    go_ret
    exact ⟨rfl, Below.refl _ _⟩
  · exact main a0 len0 cap0 _ a1 w hrow (by omega)
end Go.Proofs.Ytgoffcpchgepeaa.fnSemicolonIfNeededIdempotent
