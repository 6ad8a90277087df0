/-
  Contracts of printIndent and printNewlinePastLineLimit over this seat's program.
  Conditions: the output stays below 2^40 bytes; no pending indent-as-space.
-/
import Derived.Test.YtgoffcpchgepeaaLine
namespace Go.Proofs.Ytgoffcpchgepeaa.indent
open Go.ChangeShapes Go.WideShapes Go.ChangeAt Go.RowKit
open kit pr line

/-- what printIndent leaves: m pairs of spaces more -/
def Indented (w : World) (g : Nat) (cs : List Value) (a : Option Addr) (xs : List Int) (m : Nat) (e : Ending) (w2 : World) : Prop :=
  ∃ cs2 a2 c2, e = .returned (.tuple #[]) ∧ Pr w2 g cs2 a2 c2 (xs ++ List.replicate (2 * m) 32) ∧ (∀ i, i ≠ 9 → cs2[i]? = cs[i]?) ∧ Step w w2 g a a2
def Ind (w : World) (g : Nat) (cs : List Value) (a : Option Addr) (xs : List Int) (m : Nat) (t : Value) (wr : World) : Prop :=
  ∃ (k : Nat) (cs2 : List Value) (a2 : Option Addr) (c2 : Nat), k ≤ m ∧ t = .int .i64 (k : Int) ∧ Pr wr g cs2 a2 c2 (xs ++ List.replicate (2 * k) 32) ∧ (∀ i, i ≠ 9 → cs2[i]? = cs[i]?) ∧ Step w wr g a a2

section
variable (w : World) (g : Nat) (cs : List Value) (a : Option Addr) (c : Nat) (xs : List Int)

theorem minified (h28 : cs[28]? = some (.bool true)) (h : Pr w g cs a c xs) : Calls Try.prog 75 #[.pointer (some ⟨g, 0, none⟩)] w (Indented w g cs a xs 0) := by
  have hc28 : w.cell? ⟨g, 28, none⟩ = some (.bool true) := by rw [h.blk.cell]; exact h28
  have HP := Lib.hid h
  clear h h28
  go_enter Try.func75, Try.ntmps75
  go_wp2
  go_end0
  exact ⟨cs, a, c, rfl, by simpa using HP.out, fun _ _ => rfl, Step.refl _ _ _⟩

set_option maxHeartbeats 2000000 in
theorem nolimit (ind lim : Int) (m : Nat) (h28 : cs[28]? = some (.bool false)) (h59 : cs[59]? = some (.bool false)) (h25 : cs[25]? = some (.int .i64 ind)) (h26 : cs[26]? = some (.int .i64 lim)) (h : Pr w g cs a c xs) (hx : xs.length ≤ 1099511627776) (hb0 : -9223372036854775808 ≤ ind) (hb1 : ind ≤ 1073741824) (hl : lim ≤ 0) (hm : ind.toNat = m) :
    Calls Try.prog 75 #[.pointer (some ⟨g, 0, none⟩)] w (Indented w g cs a xs m) := by
  have hc28 : w.cell? ⟨g, 28, none⟩ = some (.bool false) := by rw [h.blk.cell]; exact h28
  have hc59 : w.cell? ⟨g, 59, none⟩ = some (.bool false) := by rw [h.blk.cell]; exact h59
  have hc25 : w.cell? ⟨g, 25, none⟩ = some (.int .i64 ind) := by rw [h.blk.cell]; exact h25
  have hc26 : w.cell? ⟨g, 26, none⟩ = some (.int .i64 lim) := by rw [h.blk.cell]; exact h26
  have HP := Lib.hid h
  clear h h28 h59 h25 h26
  go_enter Try.func75, Try.ntmps75
  go_wp2
  go_loopw [3] (fun t wr => Ind w g cs a xs m t wr) (fun t _ => m - (intOf t).toNat)
  case atStart => exact ⟨0, cs, a, c, by omega, rfl, by simpa using HP.out, fun _ _ => rfl, Step.refl _ _ _⟩
  case round =>
    obtain ⟨k, cs2, a2, c2, hk, rfl, hp, hoth, hst⟩ := hrel
    have HP2 := Lib.hid hp
    have HO := Lib.hid hoth
    have HS := Lib.hid hst
    clear hp hoth hst
    by_cases hlt : (k : Int) < ind
    · have HC := Lib.hid (print wr g cs2 a2 c2 _ ⟨#[32, 32]⟩ HP2.out (by
        have : (⟨#[32, 32]⟩ : ByteArray).size = 2 := rfl
        rw [List.length_append, List.length_replicate]
        omega))
      go_wp2_with fail
      refine HC.out.mono ?_
      rintro e w3 ⟨a3, c3, rfl, hp3, hs3⟩
      have hR : Ind w g cs a xs m (.int .i64 ((k : Int) + 1)) w3 := by
        have e2 : (xs ++ List.replicate (2 * k) 32) ++ bytesOf ⟨#[32, 32]⟩ = xs ++ List.replicate (2 * (k + 1)) 32 := by
          have e3 : bytesOf ⟨#[32, 32]⟩ = List.replicate 2 32 := by decide
          rw [e3, List.append_assoc, List.replicate_append_replicate]
          rfl
        rw [e2] at hp3
        refine ⟨k + 1, cs2.set J (.slice a3 (xs ++ List.replicate (2 * (k + 1)) 32).length c3), a3, c3, by omega, by go_num, hp3, ?_, HS.out.trans hs3⟩
        intro i hi
        rw [List.getElem?_set_ne (fun e => hi (by rw [← e]; rfl))]
        exact HO.out i hi
      have HRR := Lib.hid hR
      clear hR hp3 hs3
      go_wp2
      go_roundw
      case rel => first | exact HRR.out | ((repeat apply Exists.intro); exact ⟨HRR.out, rfl⟩)
      case measure => simp [intOf]; omega
    · have hkm : k = m := by omega
      subst hkm
      go_wp2
      go_end0
      exact ⟨cs2, a2, c2, rfl, HP2.out, HO.out, HS.out⟩

set_option maxHeartbeats 2000000 in
theorem below (ind : Int) (l m : Nat) (h28 : cs[28]? = some (.bool false)) (h59 : cs[59]? = some (.bool false)) (h25 : cs[25]? = some (.int .i64 ind)) (h26 : cs[26]? = some (.int .i64 (l : Int))) (h : Pr w g cs a c xs) (hx : xs.length ≤ 1099511627776) (hb0 : -9223372036854775808 ≤ ind) (hl : 0 < l) (hl2 : l ≤ 9223372036854775807) (hb1 : -1152921504606846976 ≤ ind) (hb2 : ind * 2 < (l : Int)) (hm : ind.toNat = m) (hm2 : m ≤ 1073741824) :
    Calls Try.prog 75 #[.pointer (some ⟨g, 0, none⟩)] w (Indented w g cs a xs m) := by
  have hc28 : w.cell? ⟨g, 28, none⟩ = some (.bool false) := by rw [h.blk.cell]; exact h28
  have hc59 : w.cell? ⟨g, 59, none⟩ = some (.bool false) := by rw [h.blk.cell]; exact h59
  have hc25 : w.cell? ⟨g, 25, none⟩ = some (.int .i64 ind) := by rw [h.blk.cell]; exact h25
  have hc26 : w.cell? ⟨g, 26, none⟩ = some (.int .i64 (l : Int)) := by rw [h.blk.cell]; exact h26
  have HP := Lib.hid h
  clear h h28 h59 h25 h26
  go_enter Try.func75, Try.ntmps75
  go_wp2
  go_loopw [3] (fun t wr => Ind w g cs a xs m t wr) (fun t _ => m - (intOf t).toNat)
  case atStart => exact ⟨0, cs, a, c, by omega, rfl, by simpa using HP.out, fun _ _ => rfl, Step.refl _ _ _⟩
  case round =>
    obtain ⟨k, cs2, a2, c2, hk, rfl, hp, hoth, hst⟩ := hrel
    have HP2 := Lib.hid hp
    have HO := Lib.hid hoth
    have HS := Lib.hid hst
    clear hp hoth hst
    by_cases hlt : (k : Int) < ind
    · have HC := Lib.hid (print wr g cs2 a2 c2 _ ⟨#[32, 32]⟩ HP2.out (by
        have : (⟨#[32, 32]⟩ : ByteArray).size = 2 := rfl
        rw [List.length_append, List.length_replicate]
        omega))
      go_wp2_with fail
      refine HC.out.mono ?_
      rintro e w3 ⟨a3, c3, rfl, hp3, hs3⟩
      have hR : Ind w g cs a xs m (.int .i64 ((k : Int) + 1)) w3 := by
        have e2 : (xs ++ List.replicate (2 * k) 32) ++ bytesOf ⟨#[32, 32]⟩ = xs ++ List.replicate (2 * (k + 1)) 32 := by
          have e3 : bytesOf ⟨#[32, 32]⟩ = List.replicate 2 32 := by decide
          rw [e3, List.append_assoc, List.replicate_append_replicate]
          rfl
        rw [e2] at hp3
        refine ⟨k + 1, cs2.set J (.slice a3 (xs ++ List.replicate (2 * (k + 1)) 32).length c3), a3, c3, by omega, by go_num, hp3, ?_, HS.out.trans hs3⟩
        intro i hi
        rw [List.getElem?_set_ne (fun e => hi (by rw [← e]; rfl))]
        exact HO.out i hi
      have HRR := Lib.hid hR
      clear hR hp3 hs3
      go_wp2
      go_roundw
      case rel => first | exact HRR.out | ((repeat apply Exists.intro); exact ⟨HRR.out, rfl⟩)
      case measure => simp [intOf]; omega
    · have hkm : k = m := by omega
      subst hkm
      go_wp2
      go_end0
      exact ⟨cs2, a2, c2, rfl, HP2.out, HO.out, HS.out⟩

set_option maxHeartbeats 2000000 in
theorem capped (ind : Int) (l m : Nat) (h28 : cs[28]? = some (.bool false)) (h59 : cs[59]? = some (.bool false)) (h25 : cs[25]? = some (.int .i64 ind)) (h26 : cs[26]? = some (.int .i64 (l : Int))) (h : Pr w g cs a c xs) (hx : xs.length ≤ 1099511627776) (hb0 : -9223372036854775808 ≤ ind) (hl : 0 < l) (hl2 : l ≤ 2147483648) (hb1 : ind ≤ 1152921504606846976) (hb2 : (l : Int) ≤ ind * 2) (hm : l / 2 = m) :
    Calls Try.prog 75 #[.pointer (some ⟨g, 0, none⟩)] w (Indented w g cs a xs m) := by
  have hc28 : w.cell? ⟨g, 28, none⟩ = some (.bool false) := by rw [h.blk.cell]; exact h28
  have hc59 : w.cell? ⟨g, 59, none⟩ = some (.bool false) := by rw [h.blk.cell]; exact h59
  have hc25 : w.cell? ⟨g, 25, none⟩ = some (.int .i64 ind) := by rw [h.blk.cell]; exact h25
  have hc26 : w.cell? ⟨g, 26, none⟩ = some (.int .i64 (l : Int)) := by rw [h.blk.cell]; exact h26
  have HP := Lib.hid h
  clear h h28 h59 h25 h26
  have r2 : (l : Int) / 2 = ((l / 2 : Nat) : Int) := by omega
  rw [hm] at r2
  go_enter Try.func75, Try.ntmps75
  go_wp2
  go_loopw [3] (fun t wr => Ind w g cs a xs m t wr) (fun t _ => m - (intOf t).toNat)
  case atStart => exact ⟨0, cs, a, c, by omega, rfl, by simpa using HP.out, fun _ _ => rfl, Step.refl _ _ _⟩
  case round =>
    obtain ⟨k, cs2, a2, c2, hk, rfl, hp, hoth, hst⟩ := hrel
    have HP2 := Lib.hid hp
    have HO := Lib.hid hoth
    have HS := Lib.hid hst
    clear hp hoth hst
    by_cases hlt : (k : Int) < (m : Int)
    · have HC := Lib.hid (print wr g cs2 a2 c2 _ ⟨#[32, 32]⟩ HP2.out (by
        have : (⟨#[32, 32]⟩ : ByteArray).size = 2 := rfl
        rw [List.length_append, List.length_replicate]
        omega))
      go_wp2_with fail
      refine HC.out.mono ?_
      rintro e w3 ⟨a3, c3, rfl, hp3, hs3⟩
      have hR : Ind w g cs a xs m (.int .i64 ((k : Int) + 1)) w3 := by
        have e2 : (xs ++ List.replicate (2 * k) 32) ++ bytesOf ⟨#[32, 32]⟩ = xs ++ List.replicate (2 * (k + 1)) 32 := by
          have e3 : bytesOf ⟨#[32, 32]⟩ = List.replicate 2 32 := by decide
          rw [e3, List.append_assoc, List.replicate_append_replicate]
          rfl
        rw [e2] at hp3
        refine ⟨k + 1, cs2.set J (.slice a3 (xs ++ List.replicate (2 * (k + 1)) 32).length c3), a3, c3, by omega, by go_num, hp3, ?_, HS.out.trans hs3⟩
        intro i hi
        rw [List.getElem?_set_ne (fun e => hi (by rw [← e]; rfl))]
        exact HO.out i hi
      have HRR := Lib.hid hR
      clear hR hp3 hs3
      go_wp2
      go_roundw
      case rel => first | exact HRR.out | ((repeat apply Exists.intro); exact ⟨HRR.out, rfl⟩)
      case measure => simp [intOf]; omega
    · have hkm : k = m := by omega
      subst hkm
      go_wp2
      go_end0
      exact ⟨cs2, a2, c2, rfl, HP2.out, HO.out, HS.out⟩
end
end Go.Proofs.Ytgoffcpchgepeaa.indent
