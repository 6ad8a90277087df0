/-
  The walk of FnRestoreExprStartFlagsOrderFreeIdempotent: Restoring f then g, g then f, or f|g twice leaves the same four starts, with nothing printed in between.
  Conditions: none beyond those of the given statement Rows.FnRestoreExprStartFlagsOrderFreeIdempotentSaid.
-/
import Derived.Test.YtgoffcpchgepeaaRows
import Derived.WalkKit
import Derived.ProofKit
import Derived.OpenShut
import Derived.ShutString
import Derived.ChangeOld
import Derived.Below
import Derived.Test.YtgoffcpchgepeaaStarts
import Derived.Test.YtgoffcpchgepeaaClone69
namespace Go.Proofs.Ytgoffcpchgepeaa.fnRestoreExprStartFlagsOrderFreeIdempotent
open Go.ChangeShapes Go.WideShapes Go.ChangeAt Go.RowKit
open Go.ChangeMaps (open_string shut_string)
set_option linter.unusedVariables false


/-- WHAT THE WALK IS TOLD OF A SLICE OF INTEGERS THAT CAME IN: it is nil; or it leads to a row of 'cap' cells, the numbers 'zs' (the first 'len' are its elements, the rest its spare room), each fitting its kind. -/
def IsRow (k : IntKind) (w : World) (a : Option Addr) (len cap : Nat) (zs : List Int) : Prop :=
  (a = none ∧ len = 0 ∧ cap = 0 ∧ zs = []) ∨
  ∃ x, a = some x ∧ len ≤ cap ∧ cap ≤ maxLen ∧ zs.length = cap ∧ (∀ i, i < zs.length → w.cell? (x.add i) = some (.int k (zs.getD i 0))) ∧ ∀ n ∈ zs, (Lit.int k n).wf = true

open kit pr starts
theorem bytes_ok (A : Option Addr) (n cap : Nat) (f g s0 s1 s2 s3 : Int) (w : World) (hn : n ≤ 1048576) :
    Calls Try.prog 28 #[.slice A n cap, .int .u8 f, .int .u8 g, .int .i64 s0, .int .i64 s1, .int .i64 s2, .int .i64 s3] w fun e w' => e = .returned (.bool true) ∧ w = w' := by
  go_enter Try.func28, Try.ntmps28
  go_wp2
  go_ret
  exact ⟨rfl, rfl⟩
theorem bytes_no (A : Option Addr) (n cap : Nat) (f g s0 s1 s2 s3 : Int) (w : World) (hn : 1048576 < n) :
    Calls Try.prog 28 #[.slice A n cap, .int .u8 f, .int .u8 g, .int .i64 s0, .int .i64 s1, .int .i64 s2, .int .i64 s3] w fun e w' => e = .returned (.bool false) ∧ w = w' := by
  go_enter Try.func28, Try.ntmps28
  go_wp2
  go_ret
  exact ⟨rfl, rfl⟩
theorem upd_swap (p q : Bool) (n : Nat) (s : Int) : upd p n (upd q n s) = upd q n (upd p n s) := by cases p <;> cases q <;> rfl
theorem upd_or (p q : Bool) (n : Nat) (s : Int) : upd (p || q) n (upd (p || q) n s) = upd q n (upd p n s) := by cases p <;> cases q <;> rfl

set_option maxRecDepth 100000 in
set_option maxHeartbeats 4000000 in
theorem main (A : Option Addr) (n cap : Nat) (xs : List Int) (f g s0 s1 s2 s3 : Int) (w : World) (hr : Row w A n cap (xs.map (Value.int .u8))) (hn : n ≤ 1048576) (hf0 : 0 ≤ f) (hf1 : f ≤ 255) (hg0 : 0 ≤ g) (hg1 : g ≤ 255) :
    Calls Try.prog 5 #[.slice A n cap, .int .u8 f, .int .u8 g, .int .i64 s0, .int .i64 s1, .int .i64 s2, .int .i64 s3] w fun e w' => e = .returned (.bool true) ∧ Below w.heap.size w w' := by
  have HR := Lib.hid hr
  clear hr
  have hor := or_bound f g hf0 hf1 hg0 hg1
  have HO := Lib.hid (bit_or f g hf0 hf1 hg0 hg1)
  go_enter Try.func5, Try.ntmps5
  go_wp2_with fail
  refine (bytes_ok A n cap f g s0 s1 s2 s3 w hn).mono ?_
  rintro e w' ⟨rfl, rfl⟩
  go_wp2_with fail
  refine (clone69.run A n cap xs w HR.out (by omega)).mono ?_
  rintro e w1 ⟨a1, rfl, hown1, _, hk1⟩
  have K1 := Lib.hid hk1
  clear hown1 hk1
  go_wp2_with fail
  refine (new69 w1 a1 n n s0 s1 s2 s3).mono ?_
  rintro e w2 ⟨cs1, rfl, hp, hk⟩
  have P2 := Lib.hid hp
  have K2 := Lib.hid hk
  clear hp hk
  go_wp2_with fail
  refine (zzrestore w2 w1.heap.size cs1 a1 n n s0 s1 s2 s3 f P2.out hf0 hf1 (by omega)).mono ?_
  rintro e w3 ⟨cs2, rfl, hp, hs⟩
  have P3 := Lib.hid hp
  have S3 := Lib.hid hs
  clear hp hs
  go_wp2_with fail
  refine (zzrestore w3 w1.heap.size cs2 a1 n n _ _ _ _ g P3.out hg0 hg1 (by omega)).mono ?_
  rintro e w4 ⟨cs3, rfl, hp, hs⟩
  have P4 := Lib.hid hp
  have S4 := Lib.hid (S3.out.trans hs)
  clear hp hs
  go_wp2_with fail
  refine (new69 w4 a1 n n s0 s1 s2 s3).mono ?_
  rintro e w5 ⟨ds1, rfl, hp, hk⟩
  have Q5 := Lib.hid hp
  have K5 := Lib.hid hk
  clear hp hk
  go_wp2_with fail
  refine (zzrestore w5 w4.heap.size ds1 a1 n n s0 s1 s2 s3 g Q5.out hg0 hg1 (by omega)).mono ?_
  rintro e w6 ⟨ds2, rfl, hp, hs⟩
  have Q6 := Lib.hid hp
  have S6 := Lib.hid hs
  clear hp hs
  go_wp2_with fail
  refine (zzrestore w6 w4.heap.size ds2 a1 n n _ _ _ _ f Q6.out hf0 hf1 (by omega)).mono ?_
  rintro e w7 ⟨ds3, rfl, hp, hs⟩
  have Q7 := Lib.hid hp
  have S7 := Lib.hid (S6.out.trans hs)
  clear hp hs
  go_wp2_with fail
  refine (new69 w7 a1 n n s0 s1 s2 s3).mono ?_
  rintro e w8 ⟨es1, rfl, hp, hk⟩
  have R8 := Lib.hid hp
  have K8 := Lib.hid hk
  clear hp hk
  go_wp2_with fail
  refine (zzrestore w8 w7.heap.size es1 a1 n n s0 s1 s2 s3 _ R8.out hor.1 hor.2 (by omega)).mono ?_
  rintro e w9 ⟨es2, rfl, hp, hs⟩
  have R9 := Lib.hid hp
  have S9 := Lib.hid hs
  clear hp hs
  go_wp2_with fail
  refine (zzrestore w9 w7.heap.size es2 a1 n n _ _ _ _ _ R9.out hor.1 hor.2 (by omega)).mono ?_
  rintro e wt ⟨es3, rfl, hp, hs⟩
  rw [HO.out 0, HO.out 1, HO.out 2, HO.out 3, upd_or, upd_or, upd_or, upd_or] at hp
  have Rt := Lib.hid hp
  have St := Lib.hid (S9.out.trans hs)
  clear hp hs
  have g1 : w1.heap.size < w4.heap.size := P4.out.blk.lt
  have g2 : w4.heap.size < w7.heap.size := Q7.out.blk.lt
  have Pt := Lib.hid (((P4.out.kept K5.out).other S7.out (by omega)).kept K8.out |>.other St.out (by omega))
  have hq : starts.St wt w4.heap.size ds3 a1 n n (upd (bit g 0) n (upd (bit f 0) n s0)) (upd (bit g 1) n (upd (bit f 1) n s1)) (upd (bit g 2) n (upd (bit f 2) n s2)) (upd (bit g 3) n (upd (bit f 3) n s3)) := by
    have h := (Q7.out.kept K8.out).other St.out (by omega)
    rw [upd_swap (bit f 0), upd_swap (bit f 1), upd_swap (bit f 2), upd_swap (bit f 3)] at h
    exact h
  have Qt := Lib.hid hq
  have hbel : Below w.heap.size w wt := by
    have l1 := K1.out.size
    have l2 := K2.out.size
    have l4 := S4.out.size
    have l5 := K5.out.size
    have l7 := S7.out.size
    have l8 := K8.out.size
    have b2 : Below w.heap.size w w2 := (K1.out.trans K2.out).below
    have b4 := Below.trans b2 (S4.out.below (B := w.heap.size) l1 (fun k hk => by simp at hk) (by omega))
    have b5 := Below.trans b4 (K5.out.below.mono (by omega))
    have b7 := Below.trans b5 (S7.out.below (B := w.heap.size) (by omega) (fun k hk => by simp at hk) (by omega))
    have b8 := Below.trans b7 (K8.out.below.mono (by omega))
    exact Below.trans b8 (St.out.below (B := w.heap.size) (by omega) (fun k hk => by simp at hk) (by omega))
  have BE := Lib.hid hbel
  clear hbel hq
  generalize upd (bit g 0) n (upd (bit f 0) n s0) = t0 at *
  generalize upd (bit g 1) n (upd (bit f 1) n s1) = t1 at *
  generalize upd (bit g 2) n (upd (bit f 2) n s2) = t2 at *
  generalize upd (bit g 3) n (upd (bit f 3) n s3) = t3 at *
  go_wp2_with fail
  refine (starts69 wt w1.heap.size cs3 a1 n n t0 t1 t2 t3 Pt.out).mono ?_
  rintro e wu ⟨rfl, hku⟩
  have Ku := Lib.hid hku
  clear hku
  go_wp2_with fail
  refine (starts69 wu w4.heap.size ds3 a1 n n t0 t1 t2 t3 (Qt.out.kept Ku.out)).mono ?_
  rintro e wv ⟨rfl, hkv⟩
  have Kv := Lib.hid (Ku.out.trans hkv)
  clear hkv
  go_wp2_with fail
  refine (starts69 wv w7.heap.size es3 a1 n n t0 t1 t2 t3 (Rt.out.kept Kv.out)).mono ?_
  rintro e ww ⟨rfl, hkw⟩
  have Kw := Lib.hid (Kv.out.trans hkw)
  clear hkw
  go_wp2
  go_ret
  exact ⟨rfl, Below.trans BE.out (Kw.out.below.mono BE.out.size)⟩

theorem walk (a0 : Option Addr) (len0 cap0 : Nat) (z0 : List Int) (a1 : Int) (a2 : Int) (a3 : Int) (a4 : Int) (a5 : Int) (a6 : Int) (w : World) (w0 : IsRow .u8 w a0 len0 cap0 z0) (w1 : (Lit.int .u8 a1).wf = true) (w2 : (Lit.int .u8 a2).wf = true) (w3 : (Lit.int .i64 a3).wf = true) (w4 : (Lit.int .i64 a4).wf = true) (w5 : (Lit.int .i64 a5).wf = true) (w6 : (Lit.int .i64 a6).wf = true) :
    Calls Try.prog 5 #[.slice a0 len0 cap0, .int .u8 a1, .int .u8 a2, .int .i64 a3, .int .i64 a4, .int .i64 a5, .int .i64 a6] w fun e w' => e = .returned (.bool true) ∧ Below w.heap.size w w' := by
  have hrow : Row w a0 len0 cap0 ((z0.take len0).map (Value.int .u8)) := by
    rcases w0 with ⟨rfl, rfl, rfl, rfl⟩ | ⟨x, rfl, hl, hm, hz, hcell, hwz⟩
    · exact Row.nil w
    · exact Row.of_cells hl hm hz hcell
  have b1 := bounds_u8 w1
  have b2 := bounds_u8 w2
  have hml : (len0 : Int) ≤ 9223372036854775807 := by
    have h1 := hrow.2.1; have h2 := hrow.2.2.1; unfold maxLen at h2; omega
  by_cases c1 : 1048576 < len0
  · clear w1 w2 w3 w4 w5 w6
    go_enter Try.func5, Try.ntmps5
    go_wp2_with fail
    refine (bytes_no a0 len0 cap0 a1 a2 a3 a4 a5 a6 w c1).mono ?_
    rintro e w' ⟨rfl, rfl⟩
    go_wp2
    go_ret
    exact ⟨rfl, Below.refl _ _⟩
  · exact main a0 len0 cap0 _ a1 a2 a3 a4 a5 a6 w hrow (by omega) b1.1 b1.2 b2.1 b2.2
end Go.Proofs.Ytgoffcpchgepeaa.fnRestoreExprStartFlagsOrderFreeIdempotent
