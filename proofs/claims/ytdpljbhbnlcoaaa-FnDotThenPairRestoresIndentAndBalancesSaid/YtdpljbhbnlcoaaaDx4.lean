/-
  The suffix, the outside wrappers and the maker of FnDotThenPair's printer over this seat's program.
  Conditions: the output stays below 2^40 bytes.
-/
import Derived.Test.YtdpljbhbnlcoaaaDx3
namespace Go.Proofs.Ytdpljbhbnlcoaaa.dx
open Go.ChangeShapes Go.WideShapes Go.ChangeAt Go.RowKit
open kit pr

set_option maxRecDepth 100000 in
set_option maxHeartbeats 4000000 in
theorem suffixF (w0 W : World) (g : Nat) (mw : Bool) (m : Nat) (xs : List Int) (h : Q w0 W g false mw (m : Int) xs) (hb : xs.length ≤ 1073741824) :
    Calls Try.prog 25 #[.pointer (some ⟨g, 0, none⟩)] W (Done w0 g false mw (m : Int) (xs ++ sufL false mw m)) := by
  have H := Lib.hid h
  obtain ⟨c24, c25, c28, f25⟩ := h.facts
  have HH := Lib.hid (fun W => has4 false W)
  have HP1 := Lib.hid (print w0 W g false mw (m : Int) xs ⟨#[41]⟩ h (by show _ + 1 ≤ _; omega))
  clear h c25 c28 f25
  simp only [Bool.false_eq_true, if_false] at c24 HH
  go_enter Try.func25, Try.ntmps25
  go_wp2_with fail
  refine (HH.out W).mono ?_
  rintro e w' ⟨rfl, rfl⟩
  clear c24
  go_wp2_with fail
  refine HP1.out.mono ?_
  rintro e w1 ⟨rfl, q1⟩
  have Q1 := Lib.hid q1
  clear q1 HP1
  go_wp2_with fail
  go_end0
  exact ⟨rfl, Q1.out⟩
set_option maxRecDepth 100000 in
set_option maxHeartbeats 4000000 in
theorem suffixT (w0 W : World) (g : Nat) (mw : Bool) (m : Nat) (xs : List Int) (h : Q w0 W g true mw ((m + 1 : Nat) : Int) xs) (hm : m ≤ 65536) (hb : xs.length ≤ 1073741824) :
    Calls Try.prog 25 #[.pointer (some ⟨g, 0, none⟩)] W (Done w0 g true mw (m : Int) (xs ++ sufL true mw m)) := by
  have H := Lib.hid h
  obtain ⟨c24, c25, c28, f25⟩ := h.facts
  have HH := Lib.hid (fun W => has4 true W)
  have l1 := len_semi mw
  have l2 := len_nl mw
  have l3 := len_inds mw m
  clear h c25 f25
  simp only [if_true] at c24 HH
  have key : ∀ w1 : World, Q w0 w1 g true mw ((m + 1 : Nat) : Int) (xs ++ semi mw) → Hid (Q w0 w1 g true mw ((m + 1 : Nat) : Int) (xs ++ semi mw)) := fun _ h => Lib.hid h
  cases hmw : mw
  · subst hmw
    have HP1 := Lib.hid (print w0 W g true false ((m + 1 : Nat) : Int) xs ⟨#[59]⟩ H.out (by show _ + 1 ≤ _; omega))
    go_enter Try.func25, Try.ntmps25
    go_wp2_with fail
    refine (HH.out W).mono ?_
    rintro e w' ⟨rfl, rfl⟩
    clear c24
    go_wp2_with fail
    refine HP1.out.mono ?_
    rintro e w1 ⟨rfl, q1⟩
    have Q1 : Hid (Q w0 w1 g true false ((m + 1 : Nat) : Int) (xs ++ semi false)) := Lib.hid q1
    clear q1 HP1 c28 key
    have HP2 := Lib.hid (newline w0 w1 g true false ((m + 1 : Nat) : Int) (xs ++ semi false) Q1.out (by simp only [List.length_append]; omega))
    go_wp2_with fail
    refine HP2.out.mono ?_
    rintro e w2 ⟨rfl, q2⟩
    have Q2 : Hid (Q w0 w2 g true false ((m + 1 : Nat) : Int) (xs ++ semi false ++ nl false)) := Lib.hid q2
    clear q2 HP2
    obtain ⟨_, c25, _, f25⟩ := Q2.out.facts
    have em : ((m + 1 : Nat) : Int) = (m : Int) + 1 := by omega
    rw [em] at c25
    have QI : Hid (Q w0 (w2.setCell ⟨g, 25, none⟩ (.int .i64 (m : Int))) g true false (m : Int) (xs ++ semi false ++ nl false)) := Lib.hid (Q2.out.setInd _)
    have HPI := Lib.hid (indent w0 _ g true false m (xs ++ semi false ++ nl false) QI.out (by omega) (by simp only [List.length_append]; omega))
    have hm1 : (m : Int) ≤ 65536 := by omega
    have es : (m : Int) + 1 - 1 = (m : Int) := by omega
    clear em
    go_wp2_with fail
    refine HPI.out.mono ?_
    rintro e w3 ⟨rfl, q3⟩
    have Q3 : Hid (Q w0 w3 g true false (m : Int) (xs ++ semi false ++ nl false ++ inds false m)) := Lib.hid q3
    clear q3 HPI QI c25 f25
    have HP4 := Lib.hid (print w0 w3 g true false (m : Int) (xs ++ semi false ++ nl false ++ inds false m) ⟨#[125, 41]⟩ Q3.out (by show _ + 2 ≤ _; simp only [List.length_append]; omega))
    go_wp2_with fail
    refine HP4.out.mono ?_
    rintro e w4 ⟨rfl, q4⟩
    have Q4 := Lib.hid q4
    clear q4 HP4
    go_wp2_with fail
    go_end0
    refine ⟨rfl, ?_⟩
    have e : xs ++ sufL true false m = xs ++ semi false ++ nl false ++ inds false m ++ [125, 41] := by simp only [sufL, if_true, List.append_assoc]
    rw [e]
    exact Q4.out
  · subst hmw
    have e0 : xs = xs ++ semi true := by simp [semi]
    have Q1 : Hid (Q w0 W g true true ((m + 1 : Nat) : Int) (xs ++ semi true)) := Lib.hid (by rw [← e0]; exact H.out)
    clear e0 key
    go_enter Try.func25, Try.ntmps25
    go_wp2_with fail
    refine (HH.out W).mono ?_
    rintro e w' ⟨rfl, rfl⟩
    clear c24
    have HP2 := Lib.hid (newline w0 W g true true ((m + 1 : Nat) : Int) (xs ++ semi true) Q1.out (by simp only [List.length_append]; omega))
    go_wp2_with fail
    refine HP2.out.mono ?_
    rintro e w2 ⟨rfl, q2⟩
    have Q2 : Hid (Q w0 w2 g true true ((m + 1 : Nat) : Int) (xs ++ semi true ++ nl true)) := Lib.hid q2
    clear q2 HP2
    obtain ⟨_, c25, _, f25⟩ := Q2.out.facts
    have em : ((m + 1 : Nat) : Int) = (m : Int) + 1 := by omega
    rw [em] at c25
    have QI : Hid (Q w0 (w2.setCell ⟨g, 25, none⟩ (.int .i64 (m : Int))) g true true (m : Int) (xs ++ semi true ++ nl true)) := Lib.hid (Q2.out.setInd _)
    have HPI := Lib.hid (indent w0 _ g true true m (xs ++ semi true ++ nl true) QI.out (by omega) (by simp only [List.length_append]; omega))
    have hm1 : (m : Int) ≤ 65536 := by omega
    have es : (m : Int) + 1 - 1 = (m : Int) := by omega
    clear em
    go_wp2_with fail
    refine HPI.out.mono ?_
    rintro e w3 ⟨rfl, q3⟩
    have Q3 : Hid (Q w0 w3 g true true (m : Int) (xs ++ semi true ++ nl true ++ inds true m)) := Lib.hid q3
    clear q3 HPI QI c25 f25
    have HP4 := Lib.hid (print w0 w3 g true true (m : Int) (xs ++ semi true ++ nl true ++ inds true m) ⟨#[125, 41]⟩ Q3.out (by show _ + 2 ≤ _; simp only [List.length_append]; omega))
    go_wp2_with fail
    refine HP4.out.mono ?_
    rintro e w4 ⟨rfl, q4⟩
    have Q4 := Lib.hid q4
    clear q4 HP4
    go_wp2_with fail
    go_end0
    refine ⟨rfl, ?_⟩
    have e : xs ++ sufL true true m = xs ++ semi true ++ nl true ++ inds true m ++ [125, 41] := by simp only [sufL, if_true, List.append_assoc]
    rw [e]
    exact Q4.out
set_option maxRecDepth 100000 in
theorem zzprefix (na : Bool) (w0 W : World) (g : Nat) (mw : Bool) (m : Nat) (xs : List Int) (h : Q w0 W g na mw (m : Int) xs) (hm : m ≤ 65536) (hb : xs.length ≤ 1073741824) :
    Calls Try.prog 15 #[.pointer (some ⟨g, 0, none⟩)] W fun e w' => (∃ x, e = .returned (.int .i64 x)) ∧ Q w0 w' g na mw ((upI na m : Nat) : Int) (xs ++ preL na mw m) := by
  cases na
  · have HP := Lib.hid (prefixF w0 W g mw m xs h hb)
    clear h
    go_enter Try.func15, Try.ntmps15
    go_wp2_with fail
    refine HP.out.mono ?_
    rintro e w' ⟨rfl, hq⟩
    have HQ := Lib.hid hq
    clear hq
    go_wp2_with fail
    go_ret
    exact ⟨⟨_, rfl⟩, HQ.out⟩
  · have HP := Lib.hid (prefixT w0 W g mw m xs h hm hb)
    clear h
    go_enter Try.func15, Try.ntmps15
    go_wp2_with fail
    refine HP.out.mono ?_
    rintro e w' ⟨rfl, hq⟩
    have HQ := Lib.hid hq
    clear hq
    go_wp2_with fail
    go_ret
    exact ⟨⟨_, rfl⟩, HQ.out⟩
set_option maxRecDepth 100000 in
theorem suffix (na : Bool) (w0 W : World) (g : Nat) (mw : Bool) (m : Nat) (xs : List Int) (h : Q w0 W g na mw ((upI na m : Nat) : Int) xs) (hm : m ≤ 65536) (hb : xs.length ≤ 1073741824) :
    Calls Try.prog 25 #[.pointer (some ⟨g, 0, none⟩)] W (Done w0 g na mw (m : Int) (xs ++ sufL na mw m)) := by
  cases na
  · exact suffixF w0 W g mw m xs h hb
  · exact suffixT w0 W g mw m xs h hm hb
set_option maxRecDepth 100000 in
theorem zzsuffix (na : Bool) (w0 W : World) (g : Nat) (mw : Bool) (m : Nat) (xs : List Int) (h : Q w0 W g na mw ((upI na m : Nat) : Int) xs) (hm : m ≤ 65536) (hb : xs.length ≤ 1073741824) :
    Calls Try.prog 18 #[.pointer (some ⟨g, 0, none⟩)] W (Done w0 g na mw (m : Int) (xs ++ sufL na mw m)) := by
  have HP := Lib.hid (suffix na w0 W g mw m xs h hm hb)
  clear h
  go_enter Try.func18, Try.ntmps18
  go_wp2_with fail
  refine HP.out.mono ?_
  rintro e w' ⟨rfl, hq⟩
  have HQ := Lib.hid hq
  clear hq
  go_wp2_with fail
  go_end0
  exact ⟨rfl, HQ.out⟩
set_option maxRecDepth 100000 in
theorem zzprint (na : Bool) (w0 W : World) (g : Nat) (mw : Bool) (ind : Int) (xs : List Int) (s : ByteArray) (h : Q w0 W g na mw ind xs) (hb : xs.length + s.size ≤ 70368744177664) :
    Calls Try.prog 17 #[.pointer (some ⟨g, 0, none⟩), .string s] W (Done w0 g na mw ind (xs ++ bytesOf s)) := by
  have HP := Lib.hid (print w0 W g na mw ind xs s h hb)
  clear h
  go_enter Try.func17, Try.ntmps17
  go_wp2_with fail
  refine HP.out.mono ?_
  rintro e w' ⟨rfl, hq⟩
  have HQ := Lib.hid hq
  clear hq
  go_wp2_with fail
  go_end0
  exact ⟨rfl, HQ.out⟩
set_option maxRecDepth 100000 in
theorem zzjs (na : Bool) (w0 W : World) (g : Nat) (mw : Bool) (ind : Int) (xs : List Int) (h : Q w0 W g na mw ind xs) :
    Calls Try.prog 16 #[.pointer (some ⟨g, 0, none⟩)] W fun e w' => (∃ q c, e = .returned (.slice (some ⟨q, 0, none⟩) xs.length c) ∧ OwnX W q c xs ∧ w0.heap.size ≤ q) ∧ W = w' := by
  obtain ⟨cs, q, c, h1, h2, h3, h4, h5, h6, h7, h8, h9, h10⟩ := h.ex
  have c9 : W.cell? ⟨g, 9, none⟩ = some (.slice (some ⟨q, 0, none⟩) xs.length c) := (h1.cell 9).trans h2
  have H8 := Lib.hid h8
  have H9 := Lib.hid h9
  clear h h1 h2 h3 h4 h5 h6 h7 h8 h9 h10
  generalize xs.length = n at *
  go_enter Try.func16, Try.ntmps16
  go_wp2_with fail
  go_ret
  exact ⟨⟨q, c, rfl, H8.out, H9.out⟩, rfl⟩
set_option maxRecDepth 100000 in
theorem zzindent (na : Bool) (w0 W : World) (g : Nat) (mw : Bool) (ind : Int) (xs : List Int) (h : Q w0 W g na mw ind xs) :
    Calls Try.prog 19 #[.pointer (some ⟨g, 0, none⟩)] W fun e w' => e = .returned (.int .i64 ind) ∧ W = w' := by
  obtain ⟨_, c25, _, _⟩ := h.facts
  clear h
  go_enter Try.func19, Try.ntmps19
  go_wp2_with fail
  go_ret
  exact ⟨rfl, rfl⟩
end Go.Proofs.Ytdpljbhbnlcoaaa.dx
