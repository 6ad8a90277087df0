/-
  The contract of the law file's byte-equality helper over this seat's program: it answers whether the two rows hold the same elements, and writes nothing.
  Conditions: both slices are readable and at most 2^40 long.
-/
import Derived.Test.YteoeiklojidgnaaFmtBlk
import Derived.LoopTactic
import Derived.Deep.QuietTactic
import Derived.BigQuiet
namespace Go.Proofs.YteoeiklojidgnaaFmt.eqb9
open Go.ChangeShapes Go.WideShapes Go.ChangeAt Go.RowKit
open kit

def sameB (xs ys : List Int) : Bool := decide (xs = ys)
theorem sameB_self (xs : List Int) : sameB xs xs = true := by simp [sameB]

theorem eq_of_all {xs ys : List Int} (hl : xs.length = ys.length) (h : ∀ j, j < xs.length → xs.getD j 0 = ys.getD j 0) : xs = ys := by
  apply List.ext_getElem hl
  intro i h1 h2
  have := h i h1
  simpa [h1, h2] using this

set_option maxHeartbeats 1000000 in
theorem run (A : Option Addr) (n c : Nat) (xs : List Int) (B : Option Addr) (m d : Nat) (ys : List Int) (w : World) (hr : Row w A n c (xs.map (Value.int .u16))) (hs : Row w B m d (ys.map (Value.int .u16))) (hn : n ≤ 1099511627776) (hm : m ≤ 1099511627776) :
    Calls Tryf.prog 9 #[.slice A n c, .slice B m d] w fun e w' => e = .returned (.bool (sameB xs ys)) ∧ Kept w w' := by
  have hlx : xs.length = n := by simpa using hr.1
  have hly : ys.length = m := by simpa using hs.1
  have HR := Lib.hid hr
  have HS := Lib.hid hs
  have HX := Lib.hid hlx
  have HY := Lib.hid hly
  clear hr hs hlx hly
  by_cases hnm : n = m
  · subst hnm
    have hne : ((n : Int) != (n : Int)) = false := by simp
    go_enter Tryf.func9, Tryf.ntmps9
    go_wp2
    go_loopw [5] (fun t wr => ∃ k : Nat, k ≤ n ∧ t = .int .i64 k ∧ Hid (∀ j, j < k → xs.getD j 0 = ys.getD j 0) ∧ Kept w wr) (fun t _ => n - (intOf t).toNat)
    case atStart => exact ⟨0, by omega, rfl, fun j hj => absurd hj (by omega), Kept.refl _⟩
    case round =>
      obtain ⟨k, hk, rfl, hall, hkept⟩ := hrel
      by_cases hlt : k < n
      · obtain ⟨b, off, hA, hbl, hcell⟩ := HR.out.2.2.2.2 (by omega)
        obtain ⟨b2, off2, hB, hbl2, hcell2⟩ := HS.out.2.2.2.2 (by omega)
        subst hA
        subst hB
        have hkx : k < xs.length := by rw [HX.out]; exact hlt
        have hky : k < ys.length := by rw [HY.out]; exact hlt
        have hck : wr.cell? ⟨b, off + k, none⟩ = some (.int .u16 (xs.getD k 0)) := by
          have := hkept.cell (hcell k (by simpa using hkx))
          rw [this]; simp [hkx]
        have hck2 : wr.cell? ⟨b2, off2 + k, none⟩ = some (.int .u16 (ys.getD k 0)) := by
          have := hkept.cell (hcell2 k (by simpa using hky))
          rw [this]; simp [hky]
        have hki : (k : Int) < (n : Int) := by omega
        have hk0 : (0 : Int) ≤ (k : Int) := by omega
        have HK := Lib.hid hkept
        clear hcell hcell2 hbl hbl2 hkept
        by_cases he : xs.getD k 0 = ys.getD k 0
        · have HN : Hid (∀ j, j < k + 1 → xs.getD j 0 = ys.getD j 0) := fun j hj => by
            rcases Nat.lt_or_ge j k with hjk | hjk
            · exact hall.out j hjk
            · obtain rfl : j = k := by omega
              exact he
          rw [← he] at hck2
          clear he
          generalize xs.getD k 0 = x at *
          have hx : (x != x) = false := by simp
          go_wp2
          go_quiet (fail)
          go_wp2
          go_roundw
          case rel => first | exact ⟨k + 1, by omega, by go_num, HN, HK.out.drewN _⟩ | ((repeat apply Exists.intro); exact ⟨⟨k + 1, by omega, by go_num, HN, HK.out.drewN _⟩, rfl⟩)
          case measure => simp [intOf]; omega
        · have hf : sameB xs ys = false := by
            simp only [sameB, decide_eq_false_iff_not]
            intro e
            exact he (by rw [e])
          have HF := Lib.hid hf
          have hx : (xs.getD k 0 != ys.getD k 0) = true := by simpa using he
          clear hf he
          generalize xs.getD k 0 = x at *
          generalize ys.getD k 0 = y at *
          go_wp2
          go_quiet (fail)
          go_wp2
          go_ret
          exact ⟨by rw [HF.out]; rfl, HK.out.drewN _⟩
      · obtain rfl : k = n := by omega
        have hf : sameB xs ys = true := by
          simp only [sameB, decide_eq_true_eq]
          exact eq_of_all (by rw [HX.out, HY.out]) (fun j hj => hall.out j (by rw [HX.out] at hj; exact hj))
        have HF := Lib.hid hf
        clear hf
        go_wp2
        go_ret
        exact ⟨by rw [HF.out]; rfl, hkept⟩
  · have hne : ((n : Int) != (m : Int)) = true := by simp; omega
    have hf : sameB xs ys = false := by
      simp only [sameB, decide_eq_false_iff_not]
      intro e
      exact hnm (by rw [← HX.out, ← HY.out, e])
    have HF := Lib.hid hf
    clear hf
    go_enter Tryf.func9, Tryf.ntmps9
    go_wp2
    go_ret
    exact ⟨by rw [HF.out]; rfl, Kept.refl _⟩
end Go.Proofs.YteoeiklojidgnaaFmt.eqb9
