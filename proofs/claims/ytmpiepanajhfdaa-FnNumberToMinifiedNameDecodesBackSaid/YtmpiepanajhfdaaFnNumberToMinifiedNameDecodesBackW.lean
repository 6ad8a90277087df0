/-
  The walk of FnNumberToMinifiedNameDecodesBack: For 0 <= i < 2^31 the name NumberToMinifiedName(i) over the JS alphabet decodes back to i (head digit base 54, then bijective base 64).
  Conditions: none beyond those of the given statement Rows.FnNumberToMinifiedNameDecodesBackSaid.
-/
import Derived.Test.YtmpiepanajhfdaaRows
import Derived.WalkKit
import Derived.ProofKit
import Derived.OpenShut
import Derived.ShutString
import Derived.Test.YtmpiepanajhfdaaDecode
namespace Go.Proofs.Ytmpiepanajhfdaa.fnNumberToMinifiedNameDecodesBack
open Go.ChangeShapes Go.WideShapes Go.ChangeAt Go.RowKit
open Go.ChangeMaps (open_string shut_string)
set_option linter.unusedVariables false      -- a walk need not use every 'w<i>' (that an integer argument fits its kind)

open kit bld names decode
theorem mkmin (h t : ByteArray) (w : World) : Calls Try.prog 9 #[.string h, .string t] w fun e w' => e = .returned (.agg #[.string h, .string t]) ∧ Kept w w' := by
  go_enter Try.func9, Try.ntmps9
  go_wp2
  exact bodyPost_ret (v := .agg #[.string h, .string t]) (by simp [results, Try.results9, go_sem]) rfl ⟨rfl, (Kept.refl _).alloc _⟩
theorem tails_short (tl : List UInt8) (n : Nat) (k : Nat) (h : n < 64 ^ k) : (tails tl n).length ≤ k := by
  induction k generalizing n with
  | zero => simp at h; subst h; rw [tails_zero]; simp
  | succ k ih =>
    cases n with
    | zero => rw [tails_zero]; simp
    | succ n =>
      rw [tails_succ]
      have := ih (n / 64) (by rw [Nat.pow_succ] at h; omega)
      simp; omega

set_option maxRecDepth 100000 in
set_option maxHeartbeats 1000000 in
theorem walk (a0 : Int) (w0 : (Lit.int .i64 a0).wf = true) (w : World) :
    Calls Try.prog 3 #[.int .i64 a0] w fun e w' => e = .returned (.bool true) ∧ Below w.heap.size w w' := by
  by_cases c1 : a0 < 0
  · go_enter Try.func3, Try.ntmps3
    go_wp2
    go_ret
    exact ⟨rfl, Below.refl _ _⟩
  by_cases c2 : 2147483647 < a0
  · go_enter Try.func3, Try.ntmps3
    go_wp2
    go_ret
    exact ⟨rfl, Below.refl _ _⟩
  obtain ⟨i, rfl⟩ := Int.eq_ofNat_of_zero_le (show 0 ≤ a0 by omega)
  have hi : i ≤ 2147483647 := by omega
  have hn : i / 54 ≤ 39768215 := by omega
  have hs := tails_short jsTail.data.toList (i / 54) 5 (by omega)
  have hval : ((i % 54 : Nat) : Int) + 54 * ((i / 54 : Nat) : Int) = (i : Int) := by omega
  have HV := Lib.hid hval
  clear w0 hval
  go_enter Try.func3, Try.ntmps3
  go_wp2_with fail
  refine (mkmin jsHead jsTail _).mono ?_
  rintro e w1 ⟨rfl, hk1⟩
  have K1 := Lib.hid hk1
  clear hk1
  go_wp2_with fail
  refine (name jsHead jsTail head_size tail_size i hi _).mono ?_
  rintro e w2 ⟨rfl, hk2⟩
  have K2 := Lib.hid hk2
  clear hk2
  have hsz : (⟨(nameOf jsHead.data.toList jsTail.data.toList i).toArray⟩ : ByteArray).size = (tails jsTail.data.toList (i / 54)).length + 1 := by
    show (nameOf jsHead.data.toList jsTail.data.toList i).toArray.size = _
    simp [nameOf]
  have HD := Lib.hid (decode.decode ⟨(nameOf jsHead.data.toList jsTail.data.toList i).toArray⟩ (i % 54) (i / 54) (by omega) hn hsz (by omega) (by simp [nameOf]) (fun k => by simp [nameOf]) w2)
  clear hsz
  generalize (⟨(nameOf jsHead.data.toList jsTail.data.toList i).toArray⟩ : ByteArray) = nm at *
  go_wp2_with fail
  refine HD.out.mono ?_
  rintro e w' ⟨rfl, rfl⟩
  rw [HV.out]
  go_wp2
  go_ret
  exact ⟨by simp, (Below.trans (K1.out.alloc _).below (K2.out.below.mono (by have := K1.out.size; simp; omega)))⟩
end Go.Proofs.Ytmpiepanajhfdaa.fnNumberToMinifiedNameDecodesBack
