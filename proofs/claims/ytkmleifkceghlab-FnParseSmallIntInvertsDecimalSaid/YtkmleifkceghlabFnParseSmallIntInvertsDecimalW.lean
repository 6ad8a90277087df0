/-
  The walk of FnParseSmallIntInvertsDecimal: Parsing the decimal text of n (zzDecimal's) by parseSmallInt gives back n, for every n with |n| at most 999999999.
  Conditions: none beyond those of the given statement Rows.FnParseSmallIntInvertsDecimalSaid.
-/
import Derived.Test.YtkmleifkceghlabRows
import Derived.WalkKit
import Derived.ProofKit
import Derived.OpenShut
import Derived.Test.YtkmleifkceghlabDecimal
import Derived.Test.YtkmleifkceghlabParse
namespace Go.Proofs.Ytkmleifkceghlab.fnParseSmallIntInvertsDecimal
open Go.ChangeShapes Go.WideShapes Go.ChangeAt Go.RowKit
set_option linter.unusedVariables false      -- a walk need not use every 'w<i>' (that an integer argument fits its kind)

open kit plain
theorem zzparse (v : Value) (x : Int) (w : World) (h : Calls Try.prog 19 #[v] w fun e w' => e = .returned (.int .i64 x) ∧ w = w') :
    Calls Try.prog 13 #[v] w fun e w' => e = .returned (.int .i64 x) ∧ w = w' := by
  have H := Lib.hid h
  clear h
  go_enter Try.func13, Try.ntmps13
  go_wp2_with fail
  refine H.out.mono ?_
  rintro e w' ⟨rfl, rfl⟩
  go_wp2
  go_ret
  exact ⟨rfl, rfl⟩
theorem walk (a0 : Int) (w0 : (Lit.int .i64 a0).wf = true) (w : World) :
    Calls Try.prog 4 #[.int .i64 a0] w fun e w' => e = .returned (.bool true) ∧ Below w.heap.size w w' := by
  by_cases h1 : a0 < -999999999
  · go_enter Try.func4, Try.ntmps4
    go_wp2
    go_ret
    exact ⟨rfl, Below.refl _ _⟩
  by_cases h2 : 999999999 < a0
  · go_enter Try.func4, Try.ntmps4
    go_wp2
    go_ret
    exact ⟨rfl, Below.refl _ _⟩
  by_cases h3 : a0 < 0
  · go_enter Try.func4, Try.ntmps4
    go_wp2_with fail
    refine (decimal.neg a0 h3 (by omega) w).mono ?_
    rintro e w1 ⟨v, ds, rfl, hd, hpos, hlen, hv, hown, hk⟩
    obtain ⟨g, cap, hform, _, hlt⟩ := hown.form (by simp)
    rw [hform] at hown ⊢
    have hr := Row.of_own hown
    obtain ⟨b, off, hb, _, hc⟩ := hr.2.2.2.2 (by simp)
    injection hb with hb
    injection hb with hb1 hb2
    subst hb1 hb2
    have HK := Lib.hid hk
    have hp := zzparse (.slice (some ⟨g, 0, none⟩) (ds.length + 1) cap) (-(dec ds)) w1 (parse.neg g 0 ds.length cap ds w1 rfl hpos (by have := hr.2.1; simpa using this) (by omega) hd (by omega) (by simpa using hc 0 (by simp)) (fun k hk => by
      have := hc (k + 1) (by simp; omega)
      simp only [Nat.zero_add] at this ⊢
      rw [Nat.add_comm 1 k, this]
      simp [hk]))
    have HP := Lib.hid hp
    have hl : (([45] : List Int) ++ ds).length = ds.length + 1 := by simp
    rw [hl]
    have hneg : -(dec ds) = a0 := by omega
    have HN := Lib.hid hneg
    clear hp hown hr hc hk hd hv hpos hlen hneg hl hform
    go_wp2_with fail
    refine HP.out.mono ?_
    rintro e w2 ⟨rfl, rfl⟩
    rw [HN.out]
    go_wp2
    go_ret
    exact ⟨by simp, HK.out⟩
  · go_enter Try.func4, Try.ntmps4
    go_wp2_with fail
    refine (decimal.pos a0 (by omega) (by omega) w).mono ?_
    rintro e w1 ⟨v, ds, rfl, hd, hpos, hlen, hv, hown, hk⟩
    simp only [List.nil_append] at hown
    obtain ⟨g, cap, hform, _, hlt⟩ := hown.form hpos
    rw [hform] at hown ⊢
    have hr := Row.of_own hown
    obtain ⟨b, off, hb, _, hc⟩ := hr.2.2.2.2 hpos
    injection hb with hb
    injection hb with hb1 hb2
    subst hb1 hb2
    have HK := Lib.hid hk
    have hp := zzparse (.slice (some ⟨g, 0, none⟩) ds.length cap) (dec ds) w1 (parse.pos g 0 ds.length cap ds w1 rfl hpos (by omega) hd (by omega) (fun k hk => by
      have := hc k (by simpa using hk)
      rw [this]
      simp [hk]))
    have HP := Lib.hid hp
    have HN := Lib.hid hv
    clear hp hown hr hc hk hd hv hpos hlen hform
    go_wp2_with fail
    refine HP.out.mono ?_
    rintro e w2 ⟨rfl, rfl⟩
    rw [HN.out]
    go_wp2
    go_ret
    exact ⟨by simp, HK.out⟩
end Go.Proofs.Ytkmleifkceghlab.fnParseSmallIntInvertsDecimal
