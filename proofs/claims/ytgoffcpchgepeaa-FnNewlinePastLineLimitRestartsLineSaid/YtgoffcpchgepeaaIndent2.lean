/-
  printIndent where the doubled indent wraps, and printIndent at whatever indent up to 65536 and line limit up to 2^20.
  Conditions: the output stays below 2^40 bytes; no pending indent-as-space.
-/
import Derived.Test.YtgoffcpchgepeaaIndent
namespace Go.Proofs.Ytgoffcpchgepeaa.indent
open Go.ChangeShapes Go.WideShapes Go.ChangeAt Go.RowKit
open kit pr line

section
variable (w : World) (g : Nat) (cs : List Value) (a : Option Addr) (c : Nat) (xs : List Int)

set_option maxRecDepth 100000 in
set_option maxHeartbeats 2000000 in
theorem below2 (ind : Int) (l m : Nat) (h28 : cs[28]? = some (.bool false)) (h59 : cs[59]? = some (.bool false)) (h25 : cs[25]? = some (.int .i64 ind)) (h26 : cs[26]? = some (.int .i64 (l : Int))) (h : Pr w g cs a c xs) (hx : xs.length ≤ 1099511627776) (hb0 : -9223372036854775808 ≤ ind) (hl : 0 < l) (hl2 : l ≤ 9223372036854775807) (V : Int) (hw : IntKind.i64.wrap (ind * 2) = V) (hV : V < (l : Int)) (hneg : ind < 0) (hm : m = 0) :
    Calls Try.prog 75 #[.pointer (some ⟨g, 0, none⟩)] w (Indented w g cs a xs m) := by
  have hc28 : w.cell? ⟨g, 28, none⟩ = some (.bool false) := by rw [h.blk.cell]; exact h28
  have hc59 : w.cell? ⟨g, 59, none⟩ = some (.bool false) := by rw [h.blk.cell]; exact h59
  have hc25 : w.cell? ⟨g, 25, none⟩ = some (.int .i64 ind) := by rw [h.blk.cell]; exact h25
  have hc26 : w.cell? ⟨g, 26, none⟩ = some (.int .i64 (l : Int)) := by rw [h.blk.cell]; exact h26
  have HP := Lib.hid h
  clear h h28 h59 h25 h26
  have hd : decide ((l : Int) ≤ V) = false := by simp; omega
  have HM := Lib.hid hm
  clear hm
  clear hb0 hl2
  go_enter Try.func75, Try.ntmps75
  go_wp2
  go_loopw [3] (fun t wr => Ind w g cs a xs m t wr) (fun t _ => m - (intOf t).toNat)
  case atStart => exact ⟨0, cs, a, c, Nat.zero_le _, rfl, by simpa using HP.out, fun _ _ => rfl, Step.refl _ _ _⟩
  case round =>
    obtain ⟨k, cs2, a2, c2, hk, rfl, hp, hoth, hst⟩ := hrel
    have HP2 := Lib.hid hp
    have HO := Lib.hid hoth
    have HS := Lib.hid hst
    clear hp hoth hst
    by_cases hlt : (k : Int) < ind
    · exfalso; omega
    · have hkm : k = m := by have := HM.out; omega
      subst hkm
      go_wp2
      go_end0
      exact ⟨cs2, a2, c2, rfl, HP2.out, HO.out, HS.out⟩

set_option maxHeartbeats 2000000 in
theorem capped2 (ind : Int) (l m : Nat) (h28 : cs[28]? = some (.bool false)) (h59 : cs[59]? = some (.bool false)) (h25 : cs[25]? = some (.int .i64 ind)) (h26 : cs[26]? = some (.int .i64 (l : Int))) (h : Pr w g cs a c xs) (hx : xs.length ≤ 1099511627776) (hb0 : -9223372036854775808 ≤ ind) (hl : 0 < l) (hl2 : l ≤ 2147483648) (V : Int) (hw : IntKind.i64.wrap (ind * 2) = V) (hV : (l : Int) ≤ V) (hm : l / 2 = m) :
    Calls Try.prog 75 #[.pointer (some ⟨g, 0, none⟩)] w (Indented w g cs a xs m) := by
  have hc28 : w.cell? ⟨g, 28, none⟩ = some (.bool false) := by rw [h.blk.cell]; exact h28
  have hc59 : w.cell? ⟨g, 59, none⟩ = some (.bool false) := by rw [h.blk.cell]; exact h59
  have hc25 : w.cell? ⟨g, 25, none⟩ = some (.int .i64 ind) := by rw [h.blk.cell]; exact h25
  have hc26 : w.cell? ⟨g, 26, none⟩ = some (.int .i64 (l : Int)) := by rw [h.blk.cell]; exact h26
  have HP := Lib.hid h
  clear h h28 h59 h25 h26
  have r2 : (l : Int) / 2 = ((l / 2 : Nat) : Int) := by omega
  rw [hm] at r2
  go_enter Try.func75, Try.ntmps75
  go_wp2
  go_loopw [3] (fun t wr => Ind w g cs a xs m t wr) (fun t _ => m - (intOf t).toNat)
  case atStart => exact ⟨0, cs, a, c, by omega, rfl, by simpa using HP.out, fun _ _ => rfl, Step.refl _ _ _⟩
  case round =>
    obtain ⟨k, cs2, a2, c2, hk, rfl, hp, hoth, hst⟩ := hrel
    have HP2 := Lib.hid hp
    have HO := Lib.hid hoth
    have HS := Lib.hid hst
    clear hp hoth hst
    by_cases hlt : (k : Int) < (m : Int)
    · have HC := Lib.hid (print wr g cs2 a2 c2 _ ⟨#[32, 32]⟩ HP2.out (by
        have : (⟨#[32, 32]⟩ : ByteArray).size = 2 := rfl
        rw [List.length_append, List.length_replicate]
        omega))
      go_wp2_with fail
      refine HC.out.mono ?_
      rintro e w3 ⟨a3, c3, rfl, hp3, hs3⟩
      have hR : Ind w g cs a xs m (.int .i64 ((k : Int) + 1)) w3 := by
        have e2 : (xs ++ List.replicate (2 * k) 32) ++ bytesOf ⟨#[32, 32]⟩ = xs ++ List.replicate (2 * (k + 1)) 32 := by
          have e3 : bytesOf ⟨#[32, 32]⟩ = List.replicate 2 32 := by decide
          rw [e3, List.append_assoc, List.replicate_append_replicate]
          rfl
        rw [e2] at hp3
        refine ⟨k + 1, cs2.set J (.slice a3 (xs ++ List.replicate (2 * (k + 1)) 32).length c3), a3, c3, by omega, by go_num, hp3, ?_, HS.out.trans hs3⟩
        intro i hi
        rw [List.getElem?_set_ne (fun e => hi (by rw [← e]; rfl))]
        exact HO.out i hi
      have HRR := Lib.hid hR
      clear hR hp3 hs3
      go_wp2
      go_roundw
      case rel => first | exact HRR.out | ((repeat apply Exists.intro); exact ⟨HRR.out, rfl⟩)
      case measure => simp [intOf]; omega
    · have hkm : k = m := by omega
      subst hkm
      go_wp2
      go_end0
      exact ⟨cs2, a2, c2, rfl, HP2.out, HO.out, HS.out⟩
end

/-- printIndent, whatever the options: m pairs of spaces, within a positive line limit -/
theorem any (g : Nat) (cs : List Value) (mw : Bool) (ind lim : Int) (h25 : cs[25]? = some (.int .i64 ind)) (h26 : cs[26]? = some (.int .i64 lim)) (h28 : cs[28]? = some (.bool mw)) (h59 : cs[59]? = some (.bool false))
    (hi0 : -9223372036854775808 ≤ ind) (hi1 : ind ≤ 65536) (hl : lim ≤ 2097152) :
    ∃ m : Nat, m ≤ 1048576 ∧ (0 < lim → 2 * (m : Int) ≤ lim) ∧ ∀ (w : World) (cs' : List Value) (a : Option Addr) (c : Nat) (xs : List Int), Pr w g cs' a c xs → (∀ i, i ≠ 69 → i ≠ 70 → i ≠ 9 → cs'[i]? = cs[i]?) → xs.length ≤ 1099511627776 →
      Calls Try.prog 75 #[.pointer (some ⟨g, 0, none⟩)] w (Indented w g cs' a xs m) := by
  have t25 : ∀ cs' : List Value, (∀ i, i ≠ 69 → i ≠ 70 → i ≠ 9 → cs'[i]? = cs[i]?) → cs'[25]? = some (.int .i64 ind) := fun cs' h => (h 25 (by decide) (by decide) (by decide)).trans h25
  have t26 : ∀ cs' : List Value, (∀ i, i ≠ 69 → i ≠ 70 → i ≠ 9 → cs'[i]? = cs[i]?) → cs'[26]? = some (.int .i64 lim) := fun cs' h => (h 26 (by decide) (by decide) (by decide)).trans h26
  have t28 : ∀ cs' : List Value, (∀ i, i ≠ 69 → i ≠ 70 → i ≠ 9 → cs'[i]? = cs[i]?) → cs'[28]? = some (.bool mw) := fun cs' h => (h 28 (by decide) (by decide) (by decide)).trans h28
  have t59 : ∀ cs' : List Value, (∀ i, i ≠ 69 → i ≠ 70 → i ≠ 9 → cs'[i]? = cs[i]?) → cs'[59]? = some (.bool false) := fun cs' h => (h 59 (by decide) (by decide) (by decide)).trans h59
  cases mw
  case true => exact ⟨0, by omega, by omega, fun w cs' a c xs hp h hx => minified w g cs' a c xs (t28 cs' h) hp⟩
  case false =>
    by_cases hl0 : lim ≤ 0
    · exact ⟨ind.toNat, by omega, by omega, fun w cs' a c xs hp h hx => nolimit w g cs' a c xs ind lim _ (t28 cs' h) (t59 cs' h) (t25 cs' h) (t26 cs' h) hp hx hi0 (by omega) hl0 rfl⟩
    · obtain ⟨l, rfl⟩ := Int.eq_ofNat_of_zero_le (show 0 ≤ lim by omega)
      by_cases hb : -1152921504606846976 ≤ ind
      · by_cases hlt : ind * 2 < (l : Int)
        · exact ⟨ind.toNat, by omega, by omega, fun w cs' a c xs hp h hx => below w g cs' a c xs ind l _ (t28 cs' h) (t59 cs' h) (t25 cs' h) (t26 cs' h) hp hx hi0 (by omega) (by omega) hb hlt rfl (by omega)⟩
        · exact ⟨l / 2, by omega, by omega, fun w cs' a c xs hp h hx => capped w g cs' a c xs ind l _ (t28 cs' h) (t59 cs' h) (t25 cs' h) (t26 cs' h) hp hx hi0 (by omega) (by omega) (by omega) (by omega) rfl⟩
      · by_cases hlt : IntKind.i64.wrap (ind * 2) < (l : Int)
        · exact ⟨0, by omega, by omega, fun w cs' a c xs hp h hx => below2 w g cs' a c xs ind l _ (t28 cs' h) (t59 cs' h) (t25 cs' h) (t26 cs' h) hp hx hi0 (by omega) (by omega) _ rfl hlt (by omega) rfl⟩
        · exact ⟨l / 2, by omega, by omega, fun w cs' a c xs hp h hx => capped2 w g cs' a c xs ind l _ (t28 cs' h) (t59 cs' h) (t25 cs' h) (t26 cs' h) hp hx hi0 (by omega) (by omega) _ rfl (by omega) rfl⟩
end Go.Proofs.Ytgoffcpchgepeaa.indent
