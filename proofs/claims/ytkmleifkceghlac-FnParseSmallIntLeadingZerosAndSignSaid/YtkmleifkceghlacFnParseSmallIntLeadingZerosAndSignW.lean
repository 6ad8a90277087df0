/-
  The walk of FnParseSmallIntLeadingZerosAndSign: For a nonempty all-digit text with at most nine significant digits the value lies in [0, 999999999], leading zeros do not change it, and a leading '-' negates it.
  Conditions: none beyond those of the given statement Rows.FnParseSmallIntLeadingZerosAndSignSaid.
-/
import Derived.Test.YtkmleifkceghlacRows
import Derived.WalkKit
import Derived.ProofKit
import Derived.OpenShut
import Derived.ShutString
import Derived.ChangeOld
import Derived.Below
import Derived.Test.YtkmleifkceghlacHelpers
import Derived.Test.YtkmleifkceghlacParse
import Derived.Test.YtkmleifkceghlacClone
namespace Go.Proofs.Ytkmleifkceghlac.fnParseSmallIntLeadingZerosAndSign
open Go.ChangeShapes Go.WideShapes Go.ChangeAt Go.RowKit
open Go.ChangeMaps (open_string shut_string)
set_option linter.unusedVariables false


/-- WHAT THE WALK IS TOLD OF A SLICE OF INTEGERS THAT CAME IN: it is nil; or it leads to a row of 'cap' cells, the numbers 'zs' (the first 'len' are its elements, the rest its spare room), each fitting its kind. -/
def IsRow (k : IntKind) (w : World) (a : Option Addr) (len cap : Nat) (zs : List Int) : Prop :=
  (a = none ∧ len = 0 ∧ cap = 0 ∧ zs = []) ∨
  ∃ x, a = some x ∧ len ≤ cap ∧ cap ≤ maxLen ∧ zs.length = cap ∧ (∀ i, i < zs.length → w.cell? (x.add i) = some (.int k (zs.getD i 0))) ∧ ∀ n ∈ zs, (Lit.int k n).wf = true

open kit plain helpers
theorem info5 : (Try.prog.info? 5).map (fun i => (i.zero, i.size, i.bytes)) = some (some (.int .u8 0), 1, 1) := by kernel_rfl
theorem zzparse (v : Value) (x : Int) (w : World) (h : Calls Try.prog 12 #[v] w fun e w' => e = .returned (.int .i64 x) ∧ w = w') :
    Calls Try.prog 11 #[v] w fun e w' => e = .returned (.int .i64 x) ∧ w = w' := by
  have H := Lib.hid h
  clear h
  go_enter Try.func11, Try.ntmps11
  go_wp2_with fail
  refine H.out.mono ?_
  rintro e w' ⟨rfl, rfl⟩
  go_wp2
  go_ret
  exact ⟨rfl, rfl⟩

/-- a nonempty row of digits, parsed -/
theorem parse_own {base : Nat} {w : World} {v : Value} {xs : List Int} (hown : w.ownsRow base 5 1 v xs.length (xs.map (Value.int .u8))) (h0 : 0 < xs.length) (hm : xs.length ≤ 10000) (hd : Digits xs) (hv : dec xs ≤ 999999999) :
    Calls Try.prog 11 #[v] w fun e w' => e = .returned (.int .i64 (dec xs)) ∧ w = w' := by
  obtain ⟨g, cap, hform, _, hlt⟩ := hown.form h0
  rw [hform] at hown ⊢
  have hr := Row.of_own hown
  obtain ⟨b, off, hb, _, hc⟩ := hr.2.2.2.2 h0
  injection hb with hb
  injection hb with hb1 hb2
  subst hb1 hb2
  exact zzparse _ _ w (parse.pos g 0 xs.length cap xs w rfl h0 (by omega) hd hv (fun k hk => by
    have := hc k (by simpa using hk)
    rw [this]
    simp [hk]))
theorem parse_neg {base : Nat} {w : World} {v : Value} {xs : List Int} (hown : w.ownsRow base 5 1 v ([45] ++ xs).length (([45] ++ xs).map (Value.int .u8))) (h0 : 0 < xs.length) (hm : xs.length ≤ 10000) (hd : Digits xs) (hv : dec xs ≤ 999999999) :
    Calls Try.prog 11 #[v] w fun e w' => e = .returned (.int .i64 (-(dec xs))) ∧ w = w' := by
  obtain ⟨g, cap, hform, _, hlt⟩ := hown.form (by simp)
  rw [hform] at hown ⊢
  have hr := Row.of_own hown
  obtain ⟨b, off, hb, _, hc⟩ := hr.2.2.2.2 (by simp)
  injection hb with hb
  injection hb with hb1 hb2
  subst hb1 hb2
  have hl : (([45] : List Int) ++ xs).length = xs.length + 1 := by simp
  have hcap := hr.2.1
  rw [hl] at hcap ⊢
  exact zzparse _ _ w (parse.neg g 0 xs.length cap xs w rfl h0 hcap (by omega) hd hv (by simpa using hc 0 (by simp)) (fun k hk => by
    have := hc (k + 1) (by simp; omega)
    simp only [Nat.zero_add] at this ⊢
    rw [Nat.add_comm 1 k, this]
    simp [hk]))

theorem bytes_ok (A : Option Addr) (n cap : Nat) (z : Int) (b : Bool) (w : World) (hn : n ≤ 1048576) :
    Calls Try.prog 7 #[.slice A n cap, .int .i64 z, .bool b] w fun e w' => e = .returned (.bool true) ∧ w = w' := by
  go_enter Try.func7, Try.ntmps7
  go_wp2
  go_ret
  exact ⟨rfl, rfl⟩
theorem bytes_no (A : Option Addr) (n cap : Nat) (z : Int) (b : Bool) (w : World) (hn : 1048576 < n) :
    Calls Try.prog 7 #[.slice A n cap, .int .i64 z, .bool b] w fun e w' => e = .returned (.bool false) ∧ w = w' := by
  go_enter Try.func7, Try.ntmps7
  go_wp2
  go_ret
  exact ⟨rfl, rfl⟩
theorem zeros_digits (n : Nat) (xs : List Int) (h : Digits xs) : Digits (List.replicate n 48 ++ xs) := by
  intro x hx
  rcases List.mem_append.1 hx with h1 | h1
  · have := List.eq_of_mem_replicate h1; omega
  · exact h x h1

set_option maxHeartbeats 4000000 in
theorem main_pos (A : Option Addr) (n cap : Nat) (xs : List Int) (z : Nat) (w : World) (hr : Row w A n cap (xs.map (Value.int .u8))) (hn : n ≤ 4096) (h0 : 0 < n) (hz : z ≤ 4096) (hd : Digits xs) (hs : n - lead xs ≤ 9) :
    Calls Try.prog 4 #[.slice A n cap, .int .i64 (z : Int), .bool false] w fun e w' => e = .returned (.bool true) ∧ Below w.heap.size w w' := by
  have hlen : xs.length = n := by simpa using hr.1
  have hv : dec xs ≤ 999999999 := dec_small xs hd (by rw [hlen]; exact hs)
  have hv0 := dec_nonneg xs hd
  have hdb : digB xs = true := (digB_iff xs).2 hd
  obtain ⟨cur, hcur, hmk⟩ := make0 (T := 32) (E := 5) (z := .int .u8 0) (size := 1) (bytes := 1) Try.underlying32 info5 (1 + z + n) (1 + (z : Int) + (n : Int)) (by omega) (by omega) (by unfold maxLen; omega)
  obtain ⟨i0, hi, hz0, hz1, hz2⟩ := info_parts info5
  have e0 : ((n : Int) == 0) = false := beq_eq_false_iff_ne.2 (by omega)
  have HR := Lib.hid hr
  have HL := Lib.hid hlen
  have HCU := Lib.hid hcur
  have HS := Lib.hid hs
  clear hr hlen hcur
  go_enter Try.func4, Try.ntmps4
  go_wp2_with fail
  refine (bytes_ok A n cap z false w (by omega)).mono ?_
  rintro e w' ⟨rfl, rfl⟩
  go_wp2_with fail
  refine (allDigits A n cap xs w HR.out hn).mono ?_
  rintro e w' ⟨rfl, rfl⟩
  rw [hdb]
  go_wp2_with fail
  refine (sigLen A n cap xs w HR.out hn).mono ?_
  rintro e w' ⟨rfl, rfl⟩
  have hs9 : ((n - lead xs : Nat) : Int) ≤ 9 := by omega
  generalize ((n - lead xs : Nat) : Int) = sl at hs9 ⊢
  go_wp2_with fail
  refine (clone.run A n cap xs w HR.out (by omega)).mono ?_
  rintro e w1 ⟨a', rfl, hown, _, hk1⟩
  have hrow1 := Row.of_own hown
  have HO := Lib.hid hown
  have HK1 := Lib.hid hk1
  have HRW := Lib.hid hrow1
  clear hown hrow1 hk1
  go_wp2
  go_loopw [7, 8] (fun v t wr => ∃ k : Nat, k ≤ z ∧ t = .int .i64 (k : Int) ∧ wr.ownsRow w1.heap.size 5 1 v (([] : List Int) ++ List.replicate k 48).length ((([] : List Int) ++ List.replicate k 48).map (Value.int .u8)) ∧ Kept w1 wr) (fun _ t _ => z - (intOf t).toNat)
  case atStart =>
    refine ⟨0, by omega, rfl, ?_, ?_⟩
    · simpa using World.ownsRow_made (base := w1.heap.size) (e := 5) (size := 1) w1 cur (1 + z + n) (Nat.le_refl _) (by unfold maxLen; omega) HCU.out
    · exact (Kept.refl _).alloc _
  case round =>
    obtain ⟨k, hk, rfl, hown, hkw⟩ := hrel
    have hsz := hkw.size
    by_cases hlt : k < z
    · have HT := Lib.hid (show List.replicate (k + 1) (48 : Int) = List.replicate k 48 ++ [48] from List.replicate_succ')
      go_wp2_with (at_builtin; refine wpList_append_own _ rfl _ _ 32 rfl w1.heap.size 5 i0 (.int .u8 0) 1 1 Try.underlying32 hi hz0 hz1 hz2 rfl (by decide) _ _ _ rfl (hown.alloc _) ⟨wr.heap.size, 0, none⟩ 1 1 [.int .u8 48] rfl rfl ?c1 ?c2 ?c3 ?c4 ?c5 ?_)
      case c1 => exact cell_one_new _ _ _
      case c2 => intro u hu; simp at hu; subst hu; rfl
      case c3 => simp; unfold maxLen; omega
      case c4 => simp; omega
      case c5 => simp; omega
      intro v' w2 hown' hgrow _
      have hR : ∃ q : Nat, q ≤ z ∧ Value.int .i64 ((k : Int) + 1) = .int .i64 (q : Int) ∧ w2.ownsRow w1.heap.size 5 1 v' (([] : List Int) ++ List.replicate q 48).length ((([] : List Int) ++ List.replicate q 48).map (Value.int .u8)) ∧ Kept w1 w2 := by
        refine ⟨k + 1, by omega, by go_num, ?_, ?_⟩
        · rw [HT.out]
          simpa [Nat.add_assoc] using hown'
        · exact (Below.alloc hkw hsz _).grown hgrow (by simp; omega) (fun q hq => (hown.lt q hq).1)
      have HRR := Lib.hid hR
      clear hR hown' hgrow
      go_wp2
      go_roundw
      case rel => first | exact HRR.out | ((repeat apply Exists.intro); exact ⟨HRR.out, rfl⟩)
      case measure => simp [intOf]; omega
    · obtain rfl : k = z := by omega
      go_wp2
      obtain ⟨wo, rfl⟩ : ∃ wo : World, wo = wr := ⟨_, rfl⟩
      go_loopw [7, 9] (fun v t wr => ∃ q : Nat, q ≤ n ∧ t = .int .i64 (q : Int) ∧ wr.ownsRow w1.heap.size 5 1 v (([] : List Int) ++ (List.replicate k 48 ++ xs.take q)).length ((([] : List Int) ++ (List.replicate k 48 ++ xs.take q)).map (Value.int .u8)) ∧ Kept w1 wr) (fun _ t _ => n - (intOf t).toNat)
      case atStart => exact ⟨0, by omega, rfl, by simpa using hown, hkw⟩
      case round =>
        clear hown hkw hsz
        obtain ⟨q, hq, rfl, hown, hkw⟩ := hrel
        have hsz := hkw.size
        by_cases hltq : q < n
        · obtain ⟨b, off, hA, hbl, hcell⟩ := HRW.out.2.2.2.2 (by omega)
          subst hA
          have hqx : q < xs.length := by rw [HL.out]; exact hltq
          have hck : wr.cell? ⟨b, off + q, none⟩ = some (.int .u8 (xs.getD q 0)) := by
            have := hkw.cell (hcell q (by simpa using hqx))
            rw [this]; simp [hqx]
          have HT := Lib.hid (take_snoc xs q hqx)
          have HLL := Lib.hid (show (xs.take q).length = q by rw [List.length_take]; omega)
          clear hcell hbl
          generalize xs.getD q 0 = x at *
          go_wp2_with (at_builtin; refine wpList_append_own _ rfl _ _ 32 rfl w1.heap.size 5 i0 (.int .u8 0) 1 1 Try.underlying32 hi hz0 hz1 hz2 rfl (by decide) _ _ _ rfl (hown.alloc _) ⟨wr.heap.size, 0, none⟩ 1 1 [.int .u8 x] rfl rfl ?d1 ?d2 ?d3 ?d4 ?d5 ?_)
          case d1 => exact cell_one_new _ _ _
          case d2 => intro u hu; simp at hu; subst hu; rfl
          case d3 => have := HLL.out; simp [this]; unfold maxLen; omega
          case d4 => have := HLL.out; simp [this]; omega
          case d5 => simp; omega
          intro v' w2 hown' hgrow _
          have hR : ∃ r : Nat, r ≤ n ∧ Value.int .i64 ((q : Int) + 1) = .int .i64 (r : Int) ∧ w2.ownsRow w1.heap.size 5 1 v' (([] : List Int) ++ (List.replicate k 48 ++ xs.take r)).length ((([] : List Int) ++ (List.replicate k 48 ++ xs.take r)).map (Value.int .u8)) ∧ Kept w1 w2 := by
            refine ⟨q + 1, by omega, by go_num, ?_, ?_⟩
            · rw [HT.out]
              simpa [Nat.add_assoc, List.append_assoc] using hown'
            · exact (Below.alloc hkw hsz _).grown hgrow (by simp; omega) (fun q hq => (hown.lt q hq).1)
          have HRR := Lib.hid hR
          clear hR hown' hgrow
          go_wp2
          go_roundw
          case rel => first | exact HRR.out | ((repeat apply Exists.intro); exact ⟨HRR.out, rfl⟩)
          case measure => simp [intOf]; omega
        · obtain rfl : q = n := by omega
          have hxt : xs.take q = xs := List.take_of_length_le (by rw [HL.out]; omega)
          rw [hxt] at hown
          have HB := Lib.hid hown
          clear hxt hown
          have hd2 := zeros_digits k xs hd
          have hv2 : dec (List.replicate k 48 ++ xs) = dec xs := dec_zeros k xs
          have hpos : 0 < xs.length := by rw [HL.out]; omega
          have hl2 : xs.length ≤ 10000 := by rw [HL.out]; omega
          have c1 := parse_own (own_kept (by have := HO.out; rw [← HL.out] at this; exact this) hkw) hpos hl2 hd hv
          have c2 := parse_own (xs := List.replicate k 48 ++ xs) (by simpa using HB.out) (by simp; omega) (by have := HL.out; simp; omega) hd2 (by rw [hv2]; exact hv)
          rw [hv2] at c2
          rw [HL.out] at c1
          have C1 := Lib.hid c1
          have C2 := Lib.hid c2
          have HKK := Lib.hid (HK1.out.trans hkw)
          clear c1 c2 hd2 hv2 hpos hl2 hkw hsz hd hdb
          generalize dec xs = dx at *
          go_wp2_with fail
          refine C1.out.mono ?_
          rintro e w' ⟨rfl, rfl⟩
          go_wp2_with fail
          refine C2.out.mono ?_
          rintro e w' ⟨rfl, rfl⟩
          go_wp2
          go_ret
          exact ⟨by simp, HKK.out⟩

set_option maxHeartbeats 4000000 in
theorem main_neg (A : Option Addr) (n cap : Nat) (xs : List Int) (z : Nat) (w : World) (hr : Row w A n cap (xs.map (Value.int .u8))) (hn : n ≤ 4096) (h0 : 0 < n) (hz : z ≤ 4096) (hd : Digits xs) (hs : n - lead xs ≤ 9) :
    Calls Try.prog 4 #[.slice A n cap, .int .i64 (z : Int), .bool true] w fun e w' => e = .returned (.bool true) ∧ Below w.heap.size w w' := by
  have hlen : xs.length = n := by simpa using hr.1
  have hv : dec xs ≤ 999999999 := dec_small xs hd (by rw [hlen]; exact hs)
  have hv0 := dec_nonneg xs hd
  have hdb : digB xs = true := (digB_iff xs).2 hd
  obtain ⟨cur, hcur, hmk⟩ := make0 (T := 32) (E := 5) (z := .int .u8 0) (size := 1) (bytes := 1) Try.underlying32 info5 (1 + z + n) (1 + (z : Int) + (n : Int)) (by omega) (by omega) (by unfold maxLen; omega)
  obtain ⟨i0, hi, hz0, hz1, hz2⟩ := info_parts info5
  have e0 : ((n : Int) == 0) = false := beq_eq_false_iff_ne.2 (by omega)
  have HR := Lib.hid hr
  have HL := Lib.hid hlen
  have HCU := Lib.hid hcur
  have HS := Lib.hid hs
  clear hr hlen hcur
  go_enter Try.func4, Try.ntmps4
  go_wp2_with fail
  refine (bytes_ok A n cap z true w (by omega)).mono ?_
  rintro e w' ⟨rfl, rfl⟩
  go_wp2_with fail
  refine (allDigits A n cap xs w HR.out hn).mono ?_
  rintro e w' ⟨rfl, rfl⟩
  rw [hdb]
  go_wp2_with fail
  refine (sigLen A n cap xs w HR.out hn).mono ?_
  rintro e w' ⟨rfl, rfl⟩
  have hs9 : ((n - lead xs : Nat) : Int) ≤ 9 := by omega
  generalize ((n - lead xs : Nat) : Int) = sl at hs9 ⊢
  go_wp2_with fail
  refine (clone.run A n cap xs w HR.out (by omega)).mono ?_
  rintro e w1 ⟨a', rfl, hown, _, hk1⟩
  have hrow1 := Row.of_own hown
  have HO := Lib.hid hown
  have HK1 := Lib.hid hk1
  have HRW := Lib.hid hrow1
  clear hown hrow1 hk1
  have hown0 : (w1.alloc (.cells cur 5)).ownsRow w1.heap.size 5 1 (.slice (some ⟨w1.heap.size, 0, none⟩) 0 (1 + z + n)) 0 [] := World.ownsRow_made (base := w1.heap.size) (e := 5) (size := 1) w1 cur (1 + z + n) (Nat.le_refl _) (by unfold maxLen; omega) HCU.out
  go_wp2_with (at_builtin; refine wpList_append_own _ rfl _ _ 32 rfl w1.heap.size 5 i0 (.int .u8 0) 1 1 Try.underlying32 hi hz0 hz1 hz2 rfl (by decide) _ _ _ rfl (hown0.alloc _) ⟨w1.heap.size + 1, 0, none⟩ 1 1 [.int .u8 45] rfl rfl ?s1 ?s2 ?s3 ?s4 ?s5 ?_)
  case s1 => simpa using cell_one_new (w1.alloc (.cells cur 5)) (.int .u8 45) 5
  case s2 => intro u hu; simp at hu; subst hu; rfl
  case s3 => unfold maxLen; omega
  case s4 => omega
  case s5 => simp; omega
  intro v0 w2 hown' hgrow _
  have HO3 := Lib.hid hown'
  have HK3 : Hid (Kept w1 w2) := (((Below.refl _ w1).alloc (Nat.le_refl _) (.cells cur 5)).alloc (by simp) (.cells #[.int .u8 45] 5)).grown hgrow (by simp; omega) (fun q hq => (hown0.lt q hq).1)
  clear hown' hgrow hown0
  go_wp2
  go_loopw [7, 8] (fun v t wr => ∃ k : Nat, k ≤ z ∧ t = .int .i64 (k : Int) ∧ wr.ownsRow w1.heap.size 5 1 v (([45] : List Int) ++ List.replicate k 48).length ((([45] : List Int) ++ List.replicate k 48).map (Value.int .u8)) ∧ Kept w1 wr) (fun _ t _ => z - (intOf t).toNat)
  case atStart =>
    refine ⟨0, by omega, rfl, ?_, ?_⟩
    · simpa using HO3.out
    · exact HK3.out
  case round =>
    obtain ⟨k, hk, rfl, hown, hkw⟩ := hrel
    have hsz := hkw.size
    by_cases hlt : k < z
    · have HT := Lib.hid (show List.replicate (k + 1) (48 : Int) = List.replicate k 48 ++ [48] from List.replicate_succ')
      go_wp2_with (at_builtin; refine wpList_append_own _ rfl _ _ 32 rfl w1.heap.size 5 i0 (.int .u8 0) 1 1 Try.underlying32 hi hz0 hz1 hz2 rfl (by decide) _ _ _ rfl (hown.alloc _) ⟨wr.heap.size, 0, none⟩ 1 1 [.int .u8 48] rfl rfl ?c1 ?c2 ?c3 ?c4 ?c5 ?_)
      case c1 => exact cell_one_new _ _ _
      case c2 => intro u hu; simp at hu; subst hu; rfl
      case c3 => simp; unfold maxLen; omega
      case c4 => simp; omega
      case c5 => simp; omega
      intro v' w2 hown' hgrow _
      have hR : ∃ q : Nat, q ≤ z ∧ Value.int .i64 ((k : Int) + 1) = .int .i64 (q : Int) ∧ w2.ownsRow w1.heap.size 5 1 v' (([45] : List Int) ++ List.replicate q 48).length ((([45] : List Int) ++ List.replicate q 48).map (Value.int .u8)) ∧ Kept w1 w2 := by
        refine ⟨k + 1, by omega, by go_num, ?_, ?_⟩
        · rw [HT.out]
          simpa [Nat.add_assoc] using hown'
        · exact (Below.alloc hkw hsz _).grown hgrow (by simp; omega) (fun q hq => (hown.lt q hq).1)
      have HRR := Lib.hid hR
      clear hR hown' hgrow
      go_wp2
      go_roundw
      case rel => first | exact HRR.out | ((repeat apply Exists.intro); exact ⟨HRR.out, rfl⟩)
      case measure => simp [intOf]; omega
    · obtain rfl : k = z := by omega
      go_wp2
      obtain ⟨wo, rfl⟩ : ∃ wo : World, wo = wr := ⟨_, rfl⟩
      go_loopw [7, 9] (fun v t wr => ∃ q : Nat, q ≤ n ∧ t = .int .i64 (q : Int) ∧ wr.ownsRow w1.heap.size 5 1 v (([45] : List Int) ++ (List.replicate k 48 ++ xs.take q)).length ((([45] : List Int) ++ (List.replicate k 48 ++ xs.take q)).map (Value.int .u8)) ∧ Kept w1 wr) (fun _ t _ => n - (intOf t).toNat)
      case atStart => exact ⟨0, by omega, rfl, by simpa using hown, hkw⟩
      case round =>
        clear hown hkw hsz
        obtain ⟨q, hq, rfl, hown, hkw⟩ := hrel
        have hsz := hkw.size
        by_cases hltq : q < n
        · obtain ⟨b, off, hA, hbl, hcell⟩ := HRW.out.2.2.2.2 (by omega)
          subst hA
          have hqx : q < xs.length := by rw [HL.out]; exact hltq
          have hck : wr.cell? ⟨b, off + q, none⟩ = some (.int .u8 (xs.getD q 0)) := by
            have := hkw.cell (hcell q (by simpa using hqx))
            rw [this]; simp [hqx]
          have HT := Lib.hid (take_snoc xs q hqx)
          have HLL := Lib.hid (show (xs.take q).length = q by rw [List.length_take]; omega)
          clear hcell hbl
          generalize xs.getD q 0 = x at *
          go_wp2_with (at_builtin; refine wpList_append_own _ rfl _ _ 32 rfl w1.heap.size 5 i0 (.int .u8 0) 1 1 Try.underlying32 hi hz0 hz1 hz2 rfl (by decide) _ _ _ rfl (hown.alloc _) ⟨wr.heap.size, 0, none⟩ 1 1 [.int .u8 x] rfl rfl ?d1 ?d2 ?d3 ?d4 ?d5 ?_)
          case d1 => exact cell_one_new _ _ _
          case d2 => intro u hu; simp at hu; subst hu; rfl
          case d3 => have := HLL.out; simp [this]; unfold maxLen; omega
          case d4 => have := HLL.out; simp [this]; omega
          case d5 => simp; omega
          intro v' w2 hown' hgrow _
          have hR : ∃ r : Nat, r ≤ n ∧ Value.int .i64 ((q : Int) + 1) = .int .i64 (r : Int) ∧ w2.ownsRow w1.heap.size 5 1 v' (([45] : List Int) ++ (List.replicate k 48 ++ xs.take r)).length ((([45] : List Int) ++ (List.replicate k 48 ++ xs.take r)).map (Value.int .u8)) ∧ Kept w1 w2 := by
            refine ⟨q + 1, by omega, by go_num, ?_, ?_⟩
            · rw [HT.out]
              simpa [Nat.add_assoc, List.append_assoc] using hown'
            · exact (Below.alloc hkw hsz _).grown hgrow (by simp; omega) (fun q hq => (hown.lt q hq).1)
          have HRR := Lib.hid hR
          clear hR hown' hgrow
          go_wp2
          go_roundw
          case rel => first | exact HRR.out | ((repeat apply Exists.intro); exact ⟨HRR.out, rfl⟩)
          case measure => simp [intOf]; omega
        · obtain rfl : q = n := by omega
          have hxt : xs.take q = xs := List.take_of_length_le (by rw [HL.out]; omega)
          rw [hxt] at hown
          have HB := Lib.hid hown
          clear hxt hown
          have hd2 := zeros_digits k xs hd
          have hv2 : dec (List.replicate k 48 ++ xs) = dec xs := dec_zeros k xs
          have hpos : 0 < xs.length := by rw [HL.out]; omega
          have hl2 : xs.length ≤ 10000 := by rw [HL.out]; omega
          have c1 := parse_own (own_kept (by have := HO.out; rw [← HL.out] at this; exact this) hkw) hpos hl2 hd hv
          have c2 := parse_neg HB.out (by simp; omega) (by have := HL.out; simp; omega) hd2 (by rw [hv2]; exact hv)
          rw [hv2] at c2
          rw [HL.out] at c1
          have C1 := Lib.hid c1
          have C2 := Lib.hid c2
          have HKK := Lib.hid (HK1.out.trans hkw)
          clear c1 c2 hd2 hv2 hpos hl2 hkw hsz hd hdb
          generalize dec xs = dx at *
          go_wp2_with fail
          refine C1.out.mono ?_
          rintro e w' ⟨rfl, rfl⟩
          go_wp2_with fail
          refine C2.out.mono ?_
          rintro e w' ⟨rfl, rfl⟩
          go_wp2
          go_ret
          exact ⟨by simp, HKK.out⟩

theorem walk (a0 : Option Addr) (len0 cap0 : Nat) (z0 : List Int) (a1 : Int) (a2 : Bool) (w : World) (w0 : IsRow .u8 w a0 len0 cap0 z0) (w1 : (Lit.int .i64 a1).wf = true) :
    Calls Try.prog 4 #[.slice a0 len0 cap0, .int .i64 a1, .bool a2] w fun e w' => e = .returned (.bool true) ∧ Below w.heap.size w w' := by
  have hrow : Row w a0 len0 cap0 ((z0.take len0).map (Value.int .u8)) := by
    rcases w0 with ⟨rfl, rfl, rfl, rfl⟩ | ⟨x, rfl, hl, hm, hz, hcell, hwz⟩
    · exact Row.nil w
    · exact Row.of_cells hl hm hz hcell
  have hml : (len0 : Int) ≤ 9223372036854775807 := by
    have h1 := hrow.2.1; have h2 := hrow.2.2.1; unfold maxLen at h2; omega
  generalize z0.take len0 = xs at hrow
  by_cases c1 : 1048576 < len0
  · go_enter Try.func4, Try.ntmps4
    go_wp2_with fail
    refine (bytes_no a0 len0 cap0 a1 a2 w c1).mono ?_
    rintro e w' ⟨rfl, rfl⟩
    go_wp2
    go_ret
    exact ⟨rfl, Below.refl _ _⟩
  by_cases c2 : 4096 < len0
  · go_enter Try.func4, Try.ntmps4
    go_wp2_with fail
    refine (bytes_ok a0 len0 cap0 a1 a2 w (by omega)).mono ?_
    rintro e w' ⟨rfl, rfl⟩
    go_wp2
    go_ret
    exact ⟨rfl, Below.refl _ _⟩
  by_cases c3 : a1 < 0
  · go_enter Try.func4, Try.ntmps4
    go_wp2_with fail
    refine (bytes_ok a0 len0 cap0 a1 a2 w (by omega)).mono ?_
    rintro e w' ⟨rfl, rfl⟩
    go_wp2
    go_ret
    exact ⟨rfl, Below.refl _ _⟩
  by_cases c4 : 4096 < a1
  · go_enter Try.func4, Try.ntmps4
    go_wp2_with fail
    refine (bytes_ok a0 len0 cap0 a1 a2 w (by omega)).mono ?_
    rintro e w' ⟨rfl, rfl⟩
    go_wp2
    go_ret
    exact ⟨rfl, Below.refl _ _⟩
  by_cases c5 : len0 = 0
  · subst c5
    go_enter Try.func4, Try.ntmps4
    go_wp2_with fail
    refine (bytes_ok a0 0 cap0 a1 a2 w (by omega)).mono ?_
    rintro e w' ⟨rfl, rfl⟩
    go_wp2
    go_ret
    exact ⟨rfl, Below.refl _ _⟩
  have e0 : ((len0 : Int) == 0) = false := beq_eq_false_iff_ne.2 (by omega)
  cases c6 : digB xs
  · have C6 := Lib.hid c6
    have HR := Lib.hid hrow
    clear c6 hrow
    go_enter Try.func4, Try.ntmps4
    go_wp2_with fail
    refine (bytes_ok a0 len0 cap0 a1 a2 w (by omega)).mono ?_
    rintro e w' ⟨rfl, rfl⟩
    go_wp2_with fail
    refine (allDigits a0 len0 cap0 xs w HR.out (by omega)).mono ?_
    rintro e w' ⟨rfl, rfl⟩
    rw [C6.out]
    go_wp2
    go_ret
    exact ⟨rfl, Below.refl _ _⟩
  by_cases c7 : 9 < len0 - lead xs
  · have C6 := Lib.hid c6
    have HR := Lib.hid hrow
    clear c6 hrow
    go_enter Try.func4, Try.ntmps4
    go_wp2_with fail
    refine (bytes_ok a0 len0 cap0 a1 a2 w (by omega)).mono ?_
    rintro e w' ⟨rfl, rfl⟩
    go_wp2_with fail
    refine (allDigits a0 len0 cap0 xs w HR.out (by omega)).mono ?_
    rintro e w' ⟨rfl, rfl⟩
    rw [C6.out]
    go_wp2_with fail
    refine (sigLen a0 len0 cap0 xs w HR.out (by omega)).mono ?_
    rintro e w' ⟨rfl, rfl⟩
    have hs9 : (9 : Int) < ((len0 - lead xs : Nat) : Int) := by omega
    generalize ((len0 - lead xs : Nat) : Int) = sl at hs9 ⊢
    go_wp2
    go_ret
    exact ⟨rfl, Below.refl _ _⟩
  obtain ⟨z, rfl⟩ := Int.eq_ofNat_of_zero_le (show 0 ≤ a1 by omega)
  cases a2
  · exact main_pos a0 len0 cap0 xs z w hrow (by omega) (by omega) (by omega) ((digB_iff xs).1 c6) (by omega)
  · exact main_neg a0 len0 cap0 xs z w hrow (by omega) (by omega) (by omega) ((digB_iff xs).1 c6) (by omega)
end Go.Proofs.Ytkmleifkceghlac.fnParseSmallIntLeadingZerosAndSign
