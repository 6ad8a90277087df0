/-
  currentLineLength with its cache over this seat's program.
  Conditions: the output stays below 2^40 bytes.
-/
import Derived.Test.YteoeiklojidgnaaFmtPrn
namespace Go.Proofs.YteoeiklojidgnaaFmt.line
open Go.ChangeShapes Go.WideShapes Go.ChangeAt Go.RowKit
open kit pr

def isNl (c : Int) : Bool := c == 13 || c == 10
/-- where the line that holds place k starts: behind the last CR or LF among the first k bytes -/
def lsU (xs : List Int) : Nat → Nat
  | 0 => 0
  | k + 1 => if isNl (xs.getD k 0) then k + 1 else lsU xs k
theorem lsU_le (xs : List Int) (k : Nat) : lsU xs k ≤ k := by
  induction k with
  | zero => simp [lsU]
  | succ k ih => simp only [lsU]; split <;> omega
theorem lsU_app (xs ys : List Int) (k : Nat) (h : k ≤ xs.length) : lsU (xs ++ ys) k = lsU xs k := by
  induction k with
  | zero => rfl
  | succ k ih =>
    have e : (xs ++ ys).getD k 0 = xs.getD k 0 := by
      simp only [List.getD_eq_getElem?_getD]
      rw [List.getElem?_append_left (by omega)]
    simp only [lsU, e, ih (by omega)]
theorem lsU_take (xs : List Int) (n k : Nat) (h : k ≤ n) : lsU (xs.take n) k = lsU xs k := by
  induction k with
  | zero => rfl
  | succ k ih =>
    have e : (xs.take n).getD k 0 = xs.getD k 0 := by
      simp only [List.getD_eq_getElem?_getD]
      rw [List.getElem?_take_of_lt (by omega)]
    simp only [lsU, e, ih (by omega)]
theorem lsU_nl {xs : List Int} {k : Nat} (h : isNl (xs.getD k 0) = true) : lsU xs (k + 1) = k + 1 := if_pos h
theorem lsU_no {xs : List Int} {k : Nat} (h : isNl (xs.getD k 0) = false) : lsU xs (k + 1) = lsU xs k := if_neg (by rw [h]; decide)

/-- what currentLineLength leaves: the answer, and the cache brought up to date -/
def Lined (w : World) (g : Nat) (cs : List Value) (a : Option Addr) (c : Nat) (xs : List Int) (e : Ending) (w2 : World) : Prop :=
  ∃ cs2, e = .returned (.int .i64 ((xs.length : Int) - (lsU xs xs.length : Int))) ∧ Pr w2 g cs2 a c xs ∧ cs2[69]? = some (.int .i64 (lsU xs xs.length : Int)) ∧ cs2[70]? = some (.int .i64 (xs.length : Int)) ∧ (∀ i, i ≠ 69 → i ≠ 70 → cs2[i]? = cs[i]?) ∧ Step w w2 g none none

theorem _root_.Go.Proofs.YteoeiklojidgnaaFmt.pr.Pr.setOther {w : World} {g : Nat} {cs : List Value} {a : Option Addr} {c : Nat} {xs : List Int} (h : Pr w g cs a c xs) {i : Nat} (hi : i ≠ J) (u : Value) : Pr (w.setCell ⟨g, i, none⟩ u) g (cs.set i u) a c xs :=
  ⟨h.blk.set i u, by rw [List.getElem?_set_ne hi]; exact h.js, own_far h.own (h.blk.notOwned h.own (by decide))⟩

set_option maxHeartbeats 2000000 in
theorem lineLen (w : World) (g : Nat) (cs : List Value) (a : Option Addr) (c : Nat) (xs : List Int) (e0 : Nat) (h : Pr w g cs a c xs) (h69 : cs[69]? = some (.int .i64 (lsU xs e0 : Int))) (h70 : cs[70]? = some (.int .i64 (e0 : Int))) (he : e0 ≤ xs.length) (hn : xs.length ≤ 1099511627776) :
    Calls Tryf.prog 18 #[.pointer (some ⟨g, 0, none⟩)] w (Lined w g cs a c xs) := by
  have hc9 : w.cell? ⟨g, 9, none⟩ = some (.slice a xs.length c) := h.jcell
  have hc69 : w.cell? ⟨g, 69, none⟩ = some (.int .i64 (lsU xs e0 : Int)) := by rw [h.blk.cell]; exact h69
  have hc70 : w.cell? ⟨g, 70, none⟩ = some (.int .i64 (e0 : Int)) := by rw [h.blk.cell]; exact h70
  have hf69 := h.blk.free 69
  have hf70 := h.blk.free 70
  have hle := lsU_le xs e0
  have hle2 := lsU_le xs xs.length
  have HP := Lib.hid h
  have HR := Lib.hid (Row.of_own h.own)
  have H69 := Lib.hid h69
  have H70 := Lib.hid h70
  have hlt69 : 69 < cs.length := (List.getElem?_eq_some_iff.1 h69).1
  have hlt70 : 70 < cs.length := (List.getElem?_eq_some_iff.1 h70).1
  clear h h69 h70
  generalize hx : xs.length = n at *
  have HX := Lib.hid hx
  clear hx
  go_enter Tryf.func18, Tryf.ntmps18
  go_wp2
  go_loop [6] (fun t => ∃ k : Nat, e0 ≤ k ∧ k ≤ n ∧ t = .int .i64 (k : Int) ∧ Hid (lsU xs n = lsU xs k)) (fun t => (intOf t).toNat)
  case atStart => exact ⟨n, he, Nat.le_refl _, rfl, rfl⟩
  case round =>
    obtain ⟨k, hk1, hk2, rfl, hls⟩ := hrel
    by_cases hgt : e0 < k
    · obtain ⟨j, rfl⟩ : ∃ j, k = j + 1 := ⟨k - 1, by omega⟩
      obtain ⟨b, off, hA, hbl, hcell⟩ := HR.out.2.2.2.2 (by omega)
      subst hA
      have hjx : j < xs.length := by rw [HX.out]; omega
      have hcj : w.cell? ⟨b, off + j, none⟩ = some (.int .u8 (xs.getD j 0)) := by
        rw [hcell j (by simpa using hjx)]; simp [hjx]
      have e1 : ((j + 1 : Nat) : Int) = (j : Int) + 1 := by omega
      have e2 : (j : Int) + 1 - 1 = (j : Int) := by omega
      rw [e1]
      clear hcell hbl e1
      cases hnl : isNl (xs.getD j 0)
      · have hno := Lib.hid (show lsU xs n = lsU xs j by rw [hls.out, lsU_no hnl])
        have x1 : (xs.getD j 0 == 13) = false := by simp only [isNl, Bool.or_eq_false_iff] at hnl; exact hnl.1
        have x2 : (xs.getD j 0 == 10) = false := by simp only [isNl, Bool.or_eq_false_iff] at hnl; exact hnl.2
        clear hnl
        generalize xs.getD j 0 = x at *
        go_wp2
        go_round
        case rel => exact ⟨j, by omega, by omega, rfl, hno⟩
        case measure => simp [intOf] <;> omega
      · have hyes := Lib.hid (show lsU xs n = j + 1 by rw [hls.out, lsU_nl hnl])
        have x3 : (xs.getD j 0 == 13) = true ∨ ((xs.getD j 0 == 13) = false ∧ (xs.getD j 0 == 10) = true) := by
          simp only [isNl, Bool.or_eq_true] at hnl
          rcases bools (xs.getD j 0 == 13) with q | q
          · rw [q] at hnl; right; exact ⟨q, by simpa using hnl⟩
          · exact .inl q
        clear hnl
        generalize xs.getD j 0 = x at *
        rcases x3 with x1 | ⟨x1, x2⟩
        all_goals
          go_wp2
          go_ret
          have hp := HP.out
          refine ⟨(cs.set 69 (.int .i64 ((j : Int) + 1))).set 70 (.int .i64 (n : Int)), ?_, ?_, ?_, ?_, ?_, ?_⟩
          · rw [HX.out, hyes.out]; rfl
          · exact (hp.setOther (by decide) _).setOther (by decide) _
          · rw [HX.out, List.getElem?_set_ne (by decide), List.getElem?_set_self hlt69, hyes.out]; rfl
          · rw [HX.out, List.getElem?_set_self (by simpa using hlt70)]
          · intro i h1 h2
            rw [List.getElem?_set_ne (fun e => h2 e.symm), List.getElem?_set_ne (fun e => h1 e.symm)]
          · exact ((Step.refl w g none).setCell _ _).setCell _ _
    · obtain rfl : k = e0 := by omega
      have HL2 := Lib.hid hls.out
      clear hls
      go_wp2
      go_ret
      have hp := HP.out
      refine ⟨cs.set 70 (.int .i64 (n : Int)), ?_, ?_, ?_, ?_, ?_, ?_⟩
      · rw [HX.out, HL2.out]; rfl
      · exact hp.setOther (by decide) _
      · rw [HX.out, List.getElem?_set_ne (by decide), HL2.out]; exact H69.out
      · rw [HX.out, List.getElem?_set_self hlt70]
      · intro i h1 h2
        rw [List.getElem?_set_ne (fun e => h2 e.symm)]
      · exact (Step.refl w g none).setCell _ _
end Go.Proofs.YteoeiklojidgnaaFmt.line
