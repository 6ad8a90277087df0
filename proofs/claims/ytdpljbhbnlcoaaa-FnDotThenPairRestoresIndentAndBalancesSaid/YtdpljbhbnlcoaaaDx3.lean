/-
  printDotThenPrefix and printDotThenSuffix over this seat's program, and the printer's maker.
  Conditions: the output stays below 2^40 bytes.
-/
import Derived.Test.YtdpljbhbnlcoaaaDx2
import Derived.Laws.Tables
namespace Go.Proofs.Ytdpljbhbnlcoaaa.dx
open Go.ChangeShapes Go.WideShapes Go.ChangeAt Go.RowKit
open kit pr

theorem Q.facts {w0 W : World} {g : Nat} {na mw : Bool} {ind : Int} {xs : List Int} (h : Q w0 W g na mw ind xs) : W.cell? ⟨g, 24, none⟩ = some (.int .u64 (if na then 4 else 0)) ∧ W.cell? ⟨g, 25, none⟩ = some (.int .i64 ind) ∧ W.cell? ⟨g, 28, none⟩ = some (.bool mw) ∧ W.frozen? ⟨g, 25, none⟩ = false := by
  obtain ⟨cs, q, c, h1, h2, h3, h4, h5, h6, h7, _⟩ := h.ex
  exact ⟨(h1.cell 24).trans h3, (h1.cell 25).trans h4, (h1.cell 28).trans h6, h1.free 25⟩
theorem Q.setInd {w0 W : World} {g : Nat} {na mw : Bool} {ind : Int} {xs : List Int} (h : Q w0 W g na mw ind xs) (i2 : Int) : Q w0 (W.setCell ⟨g, 25, none⟩ (.int .i64 i2)) g na mw i2 xs := by
  obtain ⟨cs, q, c, h1, h2, h3, h4, h5, h6, h7, h8, h9, h10⟩ := h.ex
  have hlt : 25 < cs.length := (List.getElem?_eq_some_iff.1 h4).1
  refine ⟨⟨_, q, c, h1.set 25 (.int .i64 i2), ?_, ?_, ?_, ?_, ?_, ?_, h8.same (Below.heap_setCell W ⟨g, 25, none⟩ _ q h10), h9, h10⟩, h.lg, h.be.setCell h.lg _⟩
  · rw [List.getElem?_set_ne (by decide)]; exact h2
  · rw [List.getElem?_set_ne (by decide)]; exact h3
  · rw [List.getElem?_set_self hlt]
  · rw [List.getElem?_set_ne (by decide)]; exact h5
  · rw [List.getElem?_set_ne (by decide)]; exact h6
  · rw [List.getElem?_set_ne (by decide)]; exact h7
def sp (mw : Bool) : List Int := if mw then [] else [32]
def nl (mw : Bool) : List Int := if mw then [] else [10]
def semi (mw : Bool) : List Int := if mw then [] else [59]
def inds (mw : Bool) (m : Nat) : List Int := if mw then [] else spc m
def preL (na mw : Bool) (m : Nat) : List Int :=
  if na then [46, 116, 104, 101, 110, 40, 102, 117, 110, 99, 116, 105, 111, 110, 40, 41] ++ sp mw ++ [123] ++ nl mw ++ inds mw (m + 1) ++ [114, 101, 116, 117, 114, 110] ++ sp mw
  else [46, 116, 104, 101, 110, 40, 40, 41] ++ sp mw ++ [61, 62] ++ sp mw
def sufL (na mw : Bool) (m : Nat) : List Int := if na then semi mw ++ nl mw ++ inds mw m ++ [125, 41] else [41]
def upI (na : Bool) (m : Nat) : Nat := if na then m + 1 else m
theorem has4 (b : Bool) (W : World) : Calls Try.prog 26 #[.int .u64 (if b then 4 else 0), .int .u64 4] W fun e w' => e = .returned (.bool b) ∧ W = w' := by
  cases b
  · go_enter Try.func26, Try.ntmps26
    go_wp2
    go_ret
    exact ⟨rfl, rfl⟩
  · go_enter Try.func26, Try.ntmps26
    go_wp2
    go_ret
    exact ⟨rfl, rfl⟩
theorem len_sp (mw : Bool) : (sp mw).length ≤ 1 := by cases mw <;> simp [sp]
theorem len_nl (mw : Bool) : (nl mw).length ≤ 1 := by cases mw <;> simp [nl]
theorem len_semi (mw : Bool) : (semi mw).length ≤ 1 := by cases mw <;> simp [semi]
theorem len_inds (mw : Bool) (m : Nat) : (inds mw m).length ≤ 2 * m := by cases mw <;> simp [inds, spc]
theorem len_pre (na mw : Bool) (m : Nat) : (preL na mw m).length ≤ 2 * m + 40 := by
  have h1 := len_sp mw
  have h2 := len_nl mw
  have h3 := len_inds mw (m + 1)
  cases na <;> simp only [preL, if_true, List.length_append, List.length_cons, List.length_nil] <;> simp <;> omega
theorem len_suf (na mw : Bool) (m : Nat) : (sufL na mw m).length ≤ 2 * m + 40 := by
  have h1 := len_semi mw
  have h2 := len_nl mw
  have h3 := len_inds mw m
  cases na <;> simp only [sufL, if_true, List.length_append, List.length_cons, List.length_nil] <;> simp <;> omega

set_option maxRecDepth 100000 in
set_option maxHeartbeats 4000000 in
theorem prefixT (w0 W : World) (g : Nat) (mw : Bool) (m : Nat) (xs : List Int) (h : Q w0 W g true mw (m : Int) xs) (hm : m ≤ 65536) (hb : xs.length ≤ 1073741824) :
    Calls Try.prog 24 #[.pointer (some ⟨g, 0, none⟩)] W fun e w' => e = .returned (.int .u8 0) ∧ Q w0 w' g true mw ((m + 1 : Nat) : Int) (xs ++ preL true mw m) := by
  have H := Lib.hid h
  obtain ⟨c24, c25, c28, f25⟩ := h.facts
  have HH := Lib.hid (fun W => has4 true W)
  have l1 := len_sp mw
  have l2 := len_nl mw
  have l3 := len_inds mw (m + 1)
  clear h c25 c28 f25
  simp only [if_true] at c24 HH
  go_enter Try.func24, Try.ntmps24
  go_wp2_with fail
  refine (HH.out W).mono ?_
  rintro e w' ⟨rfl, rfl⟩
  clear c24
  have HP1 := Lib.hid (print w0 W g true mw (m : Int) (xs) ⟨#[46, 116, 104, 101, 110, 40, 102, 117, 110, 99, 116, 105, 111, 110, 40, 41]⟩ H.out (by have hz : (16 : Nat) ≤ 16 := Nat.le_refl _; show _ + 16 ≤ _; (try simp only [List.length_append, List.length_cons, List.length_nil]); omega))
  go_wp2_with fail
  refine HP1.out.mono ?_
  rintro e w1 ⟨rfl, q1⟩
  have Q1 := Lib.hid q1
  clear q1 HP1
  have Q1 : Hid (Q w0 w1 g true mw (m : Int) (xs ++ [46, 116, 104, 101, 110, 40, 102, 117, 110, 99, 116, 105, 111, 110, 40, 41])) := Lib.hid Q1.out
  have HP2 := Lib.hid (space w0 w1 g true mw (m : Int) (xs ++ [46, 116, 104, 101, 110, 40, 102, 117, 110, 99, 116, 105, 111, 110, 40, 41]) Q1.out (by simp only [List.length_append, List.length_cons, List.length_nil]; omega))
  go_wp2_with fail
  refine HP2.out.mono ?_
  rintro e w2 ⟨rfl, q2⟩
  have Q2 := Lib.hid q2
  clear q2 HP2
  have Q2 : Hid (Q w0 w2 g true mw (m : Int) (xs ++ [46, 116, 104, 101, 110, 40, 102, 117, 110, 99, 116, 105, 111, 110, 40, 41] ++ sp mw)) := Lib.hid Q2.out
  have HP3 := Lib.hid (print w0 w2 g true mw (m : Int) (xs ++ [46, 116, 104, 101, 110, 40, 102, 117, 110, 99, 116, 105, 111, 110, 40, 41] ++ sp mw) ⟨#[123]⟩ Q2.out (by have hz : (1 : Nat) ≤ 1 := Nat.le_refl _; show _ + 1 ≤ _; (try simp only [List.length_append, List.length_cons, List.length_nil]); omega))
  go_wp2_with fail
  refine HP3.out.mono ?_
  rintro e w3 ⟨rfl, q3⟩
  have Q3 := Lib.hid q3
  clear q3 HP3
  have Q3 : Hid (Q w0 w3 g true mw (m : Int) (xs ++ [46, 116, 104, 101, 110, 40, 102, 117, 110, 99, 116, 105, 111, 110, 40, 41] ++ sp mw ++ [123])) := Lib.hid Q3.out
  have HP4 := Lib.hid (newline w0 w3 g true mw (m : Int) (xs ++ [46, 116, 104, 101, 110, 40, 102, 117, 110, 99, 116, 105, 111, 110, 40, 41] ++ sp mw ++ [123]) Q3.out (by simp only [List.length_append, List.length_cons, List.length_nil]; omega))
  go_wp2_with fail
  refine HP4.out.mono ?_
  rintro e w4 ⟨rfl, q4⟩
  have Q4 := Lib.hid q4
  clear q4 HP4
  have Q4 : Hid (Q w0 w4 g true mw (m : Int) (xs ++ [46, 116, 104, 101, 110, 40, 102, 117, 110, 99, 116, 105, 111, 110, 40, 41] ++ sp mw ++ [123] ++ nl mw)) := Lib.hid Q4.out
  obtain ⟨_, c25, _, f25⟩ := Q4.out.facts
  have QI : Hid (Q w0 (w4.setCell ⟨g, 25, none⟩ (.int .i64 ((m : Int) + 1))) g true mw ((m + 1 : Nat) : Int) (xs ++ [46, 116, 104, 101, 110, 40, 102, 117, 110, 99, 116, 105, 111, 110, 40, 41] ++ sp mw ++ [123] ++ nl mw)) := Lib.hid (Q4.out.setInd _)
  have HPI := Lib.hid (indent w0 _ g true mw (m + 1) (xs ++ [46, 116, 104, 101, 110, 40, 102, 117, 110, 99, 116, 105, 111, 110, 40, 41] ++ sp mw ++ [123] ++ nl mw) QI.out (by omega) (by simp only [List.length_append, List.length_cons, List.length_nil]; omega))
  have hm1 : (m : Int) ≤ 65536 := by omega
  go_wp2_with fail
  refine HPI.out.mono ?_
  rintro e w5 ⟨rfl, q5⟩
  have Q5 : Hid (Q w0 w5 g true mw ((m + 1 : Nat) : Int) (xs ++ [46, 116, 104, 101, 110, 40, 102, 117, 110, 99, 116, 105, 111, 110, 40, 41] ++ sp mw ++ [123] ++ nl mw ++ inds mw (m + 1))) := Lib.hid q5
  clear q5 HPI QI c25 f25
  have HP6 := Lib.hid (print w0 w5 g true mw ((m + 1 : Nat) : Int) (xs ++ [46, 116, 104, 101, 110, 40, 102, 117, 110, 99, 116, 105, 111, 110, 40, 41] ++ sp mw ++ [123] ++ nl mw ++ inds mw (m + 1)) ⟨#[114, 101, 116, 117, 114, 110]⟩ Q5.out (by have hz : (6 : Nat) ≤ 6 := Nat.le_refl _; show _ + 6 ≤ _; (try simp only [List.length_append, List.length_cons, List.length_nil]); omega))
  go_wp2_with fail
  refine HP6.out.mono ?_
  rintro e w6 ⟨rfl, q6⟩
  have Q6 := Lib.hid q6
  clear q6 HP6
  have Q6 : Hid (Q w0 w6 g true mw ((m + 1 : Nat) : Int) (xs ++ [46, 116, 104, 101, 110, 40, 102, 117, 110, 99, 116, 105, 111, 110, 40, 41] ++ sp mw ++ [123] ++ nl mw ++ inds mw (m + 1) ++ [114, 101, 116, 117, 114, 110])) := Lib.hid Q6.out
  have HP7 := Lib.hid (space w0 w6 g true mw ((m + 1 : Nat) : Int) (xs ++ [46, 116, 104, 101, 110, 40, 102, 117, 110, 99, 116, 105, 111, 110, 40, 41] ++ sp mw ++ [123] ++ nl mw ++ inds mw (m + 1) ++ [114, 101, 116, 117, 114, 110]) Q6.out (by simp only [List.length_append, List.length_cons, List.length_nil]; omega))
  go_wp2_with fail
  refine HP7.out.mono ?_
  rintro e w7 ⟨rfl, q7⟩
  have Q7 := Lib.hid q7
  clear q7 HP7
  have Q7 : Hid (Q w0 w7 g true mw ((m + 1 : Nat) : Int) (xs ++ [46, 116, 104, 101, 110, 40, 102, 117, 110, 99, 116, 105, 111, 110, 40, 41] ++ sp mw ++ [123] ++ nl mw ++ inds mw (m + 1) ++ [114, 101, 116, 117, 114, 110] ++ sp mw)) := Lib.hid Q7.out
  go_wp2_with fail
  go_ret
  refine ⟨rfl, ?_⟩
  have e : xs ++ preL true mw m = xs ++ [46, 116, 104, 101, 110, 40, 102, 117, 110, 99, 116, 105, 111, 110, 40, 41] ++ sp mw ++ [123] ++ nl mw ++ inds mw (m + 1) ++ [114, 101, 116, 117, 114, 110] ++ sp mw := by simp only [preL, if_true, List.append_assoc]
  rw [e]
  exact Q7.out

set_option maxRecDepth 100000 in
set_option maxHeartbeats 4000000 in
theorem prefixF (w0 W : World) (g : Nat) (mw : Bool) (m : Nat) (xs : List Int) (h : Q w0 W g false mw (m : Int) xs) (hb : xs.length ≤ 1073741824) :
    Calls Try.prog 24 #[.pointer (some ⟨g, 0, none⟩)] W fun e w' => e = .returned (.int .u8 1) ∧ Q w0 w' g false mw (m : Int) (xs ++ preL false mw m) := by
  have H := Lib.hid h
  obtain ⟨c24, c25, c28, f25⟩ := h.facts
  have HH := Lib.hid (fun W => has4 false W)
  have l1 := len_sp mw
  clear h c25 c28 f25
  simp only [Bool.false_eq_true, if_false] at c24 HH
  go_enter Try.func24, Try.ntmps24
  go_wp2_with fail
  refine (HH.out W).mono ?_
  rintro e w' ⟨rfl, rfl⟩
  clear c24
  have HP1 := Lib.hid (print w0 W g false mw (m : Int) (xs) ⟨#[46, 116, 104, 101, 110, 40, 40, 41]⟩ H.out (by have hz : (8 : Nat) ≤ 8 := Nat.le_refl _; show _ + 8 ≤ _; (try simp only [List.length_append, List.length_cons, List.length_nil]); omega))
  go_wp2_with fail
  refine HP1.out.mono ?_
  rintro e w1 ⟨rfl, q1⟩
  have Q1 := Lib.hid q1
  clear q1 HP1
  have Q1 : Hid (Q w0 w1 g false mw (m : Int) (xs ++ [46, 116, 104, 101, 110, 40, 40, 41])) := Lib.hid Q1.out
  have HP2 := Lib.hid (space w0 w1 g false mw (m : Int) (xs ++ [46, 116, 104, 101, 110, 40, 40, 41]) Q1.out (by simp only [List.length_append, List.length_cons, List.length_nil]; omega))
  go_wp2_with fail
  refine HP2.out.mono ?_
  rintro e w2 ⟨rfl, q2⟩
  have Q2 := Lib.hid q2
  clear q2 HP2
  have Q2 : Hid (Q w0 w2 g false mw (m : Int) (xs ++ [46, 116, 104, 101, 110, 40, 40, 41] ++ sp mw)) := Lib.hid Q2.out
  have HP3 := Lib.hid (print w0 w2 g false mw (m : Int) (xs ++ [46, 116, 104, 101, 110, 40, 40, 41] ++ sp mw) ⟨#[61, 62]⟩ Q2.out (by have hz : (2 : Nat) ≤ 2 := Nat.le_refl _; show _ + 2 ≤ _; (try simp only [List.length_append, List.length_cons, List.length_nil]); omega))
  go_wp2_with fail
  refine HP3.out.mono ?_
  rintro e w3 ⟨rfl, q3⟩
  have Q3 := Lib.hid q3
  clear q3 HP3
  have Q3 : Hid (Q w0 w3 g false mw (m : Int) (xs ++ [46, 116, 104, 101, 110, 40, 40, 41] ++ sp mw ++ [61, 62])) := Lib.hid Q3.out
  have HP4 := Lib.hid (space w0 w3 g false mw (m : Int) (xs ++ [46, 116, 104, 101, 110, 40, 40, 41] ++ sp mw ++ [61, 62]) Q3.out (by simp only [List.length_append, List.length_cons, List.length_nil]; omega))
  go_wp2_with fail
  refine HP4.out.mono ?_
  rintro e w4 ⟨rfl, q4⟩
  have Q4 := Lib.hid q4
  clear q4 HP4
  have Q4 : Hid (Q w0 w4 g false mw (m : Int) (xs ++ [46, 116, 104, 101, 110, 40, 40, 41] ++ sp mw ++ [61, 62] ++ sp mw)) := Lib.hid Q4.out
  go_wp2_with fail
  go_ret
  refine ⟨rfl, ?_⟩
  have e : xs ++ preL false mw m = xs ++ [46, 116, 104, 101, 110, 40, 40, 41] ++ sp mw ++ [61, 62] ++ sp mw := by simp only [preL, Bool.false_eq_true, if_false, List.append_assoc]
  rw [e]
  exact Q4.out
end Go.Proofs.Ytdpljbhbnlcoaaa.dx
