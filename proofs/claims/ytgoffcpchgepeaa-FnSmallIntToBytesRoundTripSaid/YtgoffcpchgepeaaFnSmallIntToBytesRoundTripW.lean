/-
  The walk of FnSmallIntToBytesRoundTrip: The text of smallIntToBytes is canonical and parseSmallInt reads it back; a second call on the same printer again carries the right sign and reads back to its own number.
  Conditions: none beyond those of the given statement Rows.FnSmallIntToBytesRoundTripSaid.
-/
import Derived.Test.YtgoffcpchgepeaaRows
import Derived.WalkKit
import Derived.ProofKit
import Derived.OpenShut
import Derived.ShutString
import Derived.Test.YtgoffcpchgepeaaSmall2
namespace Go.Proofs.Ytgoffcpchgepeaa.fnSmallIntToBytesRoundTrip
open Go.ChangeShapes Go.WideShapes Go.ChangeAt Go.RowKit
open Go.ChangeMaps (open_string shut_string)
set_option linter.unusedVariables false      -- a walk need not use every 'w<i>' (that an integer argument fits its kind)

open kit pr plain small
/-- the text of a number -/
def txt (x : Int) : List Int := if x < 0 then 45 :: digs x.natAbs else digs x.natAbs
theorem small (w : World) (g : Nat) (x : Int) (h : Buf w g 64 []) (h1 : -9223372036854775807 ≤ x) (h2 : x ≤ 9223372036854775807) :
    Calls Try.prog 49 #[.pointer (some ⟨g, 0, none⟩), .int .i64 x] w (Wrote w g (txt x)) := by
  refine small49 w g x _ ?_
  by_cases hx : x < 0
  · have e : x = -((x.natAbs : Nat) : Int) := by omega
    have := smallneg w g x.natAbs h (by omega) (by omega)
    rw [← e] at this
    unfold txt; rw [if_pos hx]; exact this
  · have e : x = ((x.natAbs : Nat) : Int) := by omega
    have := smallpos w g x.natAbs h (by omega)
    rw [← e] at this
    unfold txt; rw [if_neg hx]; exact this
theorem txt_len (x : Int) (h1 : -9223372036854775807 ≤ x) (h2 : x ≤ 9223372036854775807) : 1 ≤ (txt x).length ∧ (txt x).length ≤ 20 := by
  have a := digs_pos x.natAbs
  have b := digs_len 18 x.natAbs (by omega)
  unfold txt
  split
  · simp only [List.length_cons]; omega
  · omega
/-- reading the text back -/
theorem parse (w : World) (g st : Nat) (x : Int) (hst : st + (txt x).length = 64) (hb : Buf w g st (txt x)) (h1 : -9223372036854775807 ≤ x) (h2 : x ≤ 9223372036854775807) :
    Calls Try.prog 50 #[.slice (some ⟨g, 71 + st, none⟩) (64 - st) (64 - st)] w fun e w' => e = .returned (.int .i64 x) ∧ w = w' := by
  refine parse50 _ x w ?_
  obtain ⟨d1, d2, d3, d4⟩ := digs_spec x.natAbs
  have hp := digs_pos x.natAbs
  have hl := txt_len x h1 h2
  by_cases hx : x < 0
  · have et : txt x = 45 :: digs x.natAbs := by unfold txt; rw [if_pos hx]
    have el : 64 - st = (digs x.natAbs).length + 1 := by
      have := congrArg List.length et
      simp at this; omega
    rw [el]
    have hc0 := hb.cell (i := 0) (by omega)
    have hcell : ∀ k, k < (digs x.natAbs).length → w.cell? ⟨g, 71 + st + 1 + k, none⟩ = some (.int .u8 ((digs x.natAbs).getD k 0)) := by
      intro k hk
      have := hb.cell (i := k + 1) (by rw [et]; simp; omega)
      rw [et] at this
      rw [show 71 + st + 1 + k = 71 + st + (k + 1) by omega, this]
      simp
    rw [et] at hc0
    have := pneg g (71 + st) (digs x.natAbs).length ((digs x.natAbs).length + 1) (digs x.natAbs) w rfl (by omega) (by omega) (by omega) d1 (by rw [d2]; omega) (by simpa using hc0) hcell
    rw [d2] at this
    have e : -((x.natAbs : Nat) : Int) = x := by omega
    rw [e] at this
    exact this
  · have et : txt x = digs x.natAbs := by unfold txt; rw [if_neg hx]
    have el : 64 - st = (digs x.natAbs).length := by
      have := congrArg List.length et
      omega
    rw [el]
    have hcell : ∀ k, k < (digs x.natAbs).length → w.cell? ⟨g, 71 + st + k, none⟩ = some (.int .u8 ((digs x.natAbs).getD k 0)) := by
      intro k hk
      have := hb.cell (i := k) (by rw [et]; exact hk)
      rw [et] at this
      exact this
    have := ppos g (71 + st) (digs x.natAbs).length (digs x.natAbs).length (digs x.natAbs) w rfl (by omega) (by omega) d1 (by rw [d2]; omega) hcell
    rw [d2] at this
    have e : ((x.natAbs : Nat) : Int) = x := by omega
    rw [e] at this
    exact this
/-- what a call hands over: its text at place o, and that it reads back -/
def Gave (w : World) (g : Nat) (x : Int) (e : Ending) (w2 : World) : Prop :=
  ∃ o L, e = .returned (.slice (some ⟨g, o, none⟩) L L) ∧ L = (txt x).length ∧ (∀ i, i < (txt x).length → w2.cell? ⟨g, o + i, none⟩ = some (.int .u8 ((txt x).getD i 0))) ∧ Buf w2 g 64 [] ∧ Step w w2 g none none ∧
    Calls Try.prog 50 #[.slice (some ⟨g, o, none⟩) L L] w2 fun e w' => e = .returned (.int .i64 x) ∧ w2 = w'
theorem gave (w : World) (g : Nat) (x : Int) (h : Buf w g 64 []) (h1 : -9223372036854775807 ≤ x) (h2 : x ≤ 9223372036854775807) :
    Calls Try.prog 49 #[.pointer (some ⟨g, 0, none⟩), .int .i64 x] w (Gave w g x) := by
  refine (small w g x h h1 h2).mono ?_
  rintro e w2 ⟨st, rfl, hl, hb, hs⟩
  exact ⟨71 + st, 64 - st, rfl, by omega, fun i hi => hb.cell hi, hb.forget, hs, parse w2 g st x hl hb h1 h2⟩
/-- the first sign of a text -/
theorem txt_neg {x : Int} (h : x < 0) : (txt x).getD 0 0 = 45 := by unfold txt; rw [if_pos h]; rfl
theorem txt_pos {x : Int} (h : ¬ x < 0) : 48 ≤ (txt x).getD 0 0 ∧ (txt x).getD 0 0 ≤ 57 := by
  unfold txt; rw [if_neg h]
  have hp := digs_pos x.natAbs
  have : (digs x.natAbs).getD 0 0 ∈ digs x.natAbs := by
    rw [List.getD_eq_getElem?_getD, List.getElem?_eq_getElem (by omega)]; simp
  exact (digs_spec x.natAbs).1 _ this
def I1 (D : Nat) (t : Value) : Prop := ∃ k : Nat, k ≤ D ∧ t = .int .i64 (k : Int)

set_option maxRecDepth 100000 in
set_option maxHeartbeats 8000000 in
theorem main (n m : Int) (w : World) (n1 : -9223372036854775807 ≤ n) (n2 : n ≤ 9223372036854775807) (m1 : -9223372036854775807 ≤ m) (m2 : m ≤ 9223372036854775807) :
    Calls Try.prog 9 #[.int .i64 n, .int .i64 m] w fun e w' => e = .returned (.bool true) ∧ Below w.heap.size w w' := by
  have hnn : (n != n) = false := by simp
  have hmm : (m == m) = true := by simp
  go_enter Try.func9, Try.ntmps9
  go_wp2_with fail
  refine (intok n w n1 n2).mono ?_
  rintro e w' ⟨rfl, rfl⟩
  go_wp2_with fail
  refine (intok m w m1 m2).mono ?_
  rintro e w' ⟨rfl, rfl⟩
  go_wp2_with fail
  refine (new48 w 0 0 false false).mono ?_
  rintro e w1 ⟨rfl, hb1, hk1⟩
  have HB1 := Lib.hid hb1
  have HK1 := Lib.hid hk1
  clear hb1 hk1
  go_wp2_with fail
  refine (gave w1 w.heap.size n HB1.out n1 n2).mono ?_
  rintro e w2 ⟨o, L, rfl, hL, hcell, hb2, hs2, hparse⟩
  have HB2 := Lib.hid hb2
  have HS2 := Lib.hid hs2
  have HP := Lib.hid hparse
  clear hb2 hs2 hparse
  have hlen := txt_len n n1 n2
  have c0 : w2.cell? ⟨w.heap.size, o, none⟩ = some (.int .u8 ((txt n).getD 0 0)) := hcell 0 (by omega)
  generalize hg : w.heap.size = g at *
  have HG := Lib.hid hg
  clear hg
  have hsplit : ∃ (neg : Bool) (o2 D : Nat) (ds : List Int), ds.length = D ∧ 1 ≤ D ∧ D ≤ 19 ∧ (∀ k, k < D → 48 ≤ ds.getD k 0 ∧ ds.getD k 0 ≤ 57 ∧ w2.cell? ⟨g, o2 + k, none⟩ = some (.int .u8 (ds.getD k 0))) ∧
      ((n < 0 ∧ neg = true ∧ o2 = o + 1 ∧ L = D + 1 ∧ 49 ≤ ds.getD 0 0) ∨ (¬ n < 0 ∧ neg = false ∧ o2 = o ∧ D = L ∧ (49 ≤ ds.getD 0 0 ∨ D = 1))) := by
    obtain ⟨d1, d2, d3, d4⟩ := digs_spec n.natAbs
    have hp := digs_pos n.natAbs
    have hq := digs_len 18 n.natAbs (by omega)
    have hd : ∀ k, k < (digs n.natAbs).length → 48 ≤ (digs n.natAbs).getD k 0 ∧ (digs n.natAbs).getD k 0 ≤ 57 := fun k hk => by
      have : (digs n.natAbs).getD k 0 ∈ digs n.natAbs := by
        rw [List.getD_eq_getElem?_getD, List.getElem?_eq_getElem (by omega)]; simp
      exact d1 _ this
    by_cases hn : n < 0
    · have et : txt n = 45 :: digs n.natAbs := by unfold txt; rw [if_pos hn]
      refine ⟨true, o + 1, (digs n.natAbs).length, digs n.natAbs, rfl, hp, hq, fun k hk => ⟨(hd k hk).1, (hd k hk).2, ?_⟩, .inl ⟨hn, rfl, rfl, by rw [hL, et]; rfl, d3 (by omega)⟩⟩
      have := hcell (k + 1) (by rw [et]; simp; omega)
      rw [et] at this
      rw [show o + 1 + k = o + (k + 1) by omega, this]
      simp
    · have et : txt n = digs n.natAbs := by unfold txt; rw [if_neg hn]
      refine ⟨false, o, (digs n.natAbs).length, digs n.natAbs, rfl, hp, hq, fun k hk => ⟨(hd k hk).1, (hd k hk).2, ?_⟩, .inr ⟨hn, rfl, rfl, by rw [hL, et], ?_⟩⟩
      · have := hcell k (by rw [et]; omega)
        rw [et] at this
        exact this
      · by_cases h0 : n = 0
        · right; rw [d4 (by omega)]; rfl
        · left; exact d3 (by omega)
  obtain ⟨neg, o2, D, ds, hds, hD1, hD2, hdc, hcase⟩ := hsplit
  have HDC := Lib.hid hdc
  have e0 := hdc 0 (by omega)
  obtain ⟨e01, e02, e03⟩ := e0
  have e03 : w2.cell? ⟨g, o2, none⟩ = some (.int .u8 (ds.getD 0 0)) := e03
  clear hcell hdc hlen hL hds
  rcases hcase with ⟨hn, rfl, rfl, rfl, h49⟩ | ⟨hn, rfl, rfl, rfl, h49⟩
  · rw [txt_neg hn] at c0
    have q1 : (ds.getD 0 0 == 48) = false := beq_eq_false_iff_ne.2 (by omega)
    have q2 : ((D : Int) == 0) = false := beq_eq_false_iff_ne.2 (by omega)
    have q3 : ((D : Int) + 1 == 0) = false := beq_eq_false_iff_ne.2 (by omega)
    have q4 : ¬ D = 0 := by omega
    generalize hdd : ds.getD 0 0 = d0 at *
    clear hdd
    go_wp2_with fail
    go_loop [8] (fun t => I1 D t) (fun t => D - (intOf t).toNat)
    case atStart => exact ⟨0, by omega, rfl⟩
    case round =>
      obtain ⟨k, hk, rfl⟩ := hrel
      by_cases hlt : k < D
      · obtain ⟨x1, x2, x3⟩ := HDC.out k hlt
        have HRR : Hid (I1 D (.int .i64 ((k : Int) + 1))) := Lib.hid ⟨k + 1, by omega, by go_num⟩
        generalize ds.getD k 0 = x at *
        have i1 : (k : Int) < (D : Int) := by omega
        have i2 : (0 : Int) ≤ (k : Int) := by omega
        go_wp2_with fail
        go_round
        case rel => first | exact HRR.out | ((repeat apply Exists.intro); exact ⟨HRR.out, rfl⟩) | (refine ⟨trivial, ?_⟩; (repeat apply Exists.intro); exact ⟨HRR.out, rfl⟩)
        case measure => simp [intOf]; omega
      · obtain rfl : D = k := by omega
        clear hlt e03 c0
        go_wp2_with fail
        refine HP.out.mono ?_
        rintro e w' ⟨rfl, rfl⟩
        go_wp2_with fail
        refine (gave w2 g m HB2.out m1 m2).mono ?_
        rintro e w3 ⟨p, M, rfl, hM, hcell, hb3, hs3, hparse⟩
        have hml := txt_len m m1 m2
        have c1 : w3.cell? ⟨g, p, none⟩ = some (.int .u8 ((txt m).getD 0 0)) := hcell 0 (by omega)
        have hM1 : 1 ≤ M := by omega
        have r1 : ((M : Int) == 0) = false := beq_eq_false_iff_ne.2 (by omega)
        have r2 : (0 : Int) < (M : Int) := by omega
        have HP3 := Lib.hid hparse
        have HF : Hid (Below w.heap.size w w3) := by
          refine Lib.hid ?_
          have b1 := HK1.out
          have s1 := HS2.out.trans hs3
          have := s1.below (B := w.heap.size) (by rw [HG.out]; exact Nat.le_refl _) (fun k hk => by cases hk) b1.size
          exact Below.trans b1 this
        clear hparse hcell hb3 hs3 hM hml
        by_cases hm : m < 0
        · rw [txt_neg hm] at c1
          go_wp2_with fail
          refine HP3.out.mono ?_
          rintro e w' ⟨rfl, rfl⟩
          go_wp2_with fail
          go_ret
          exact ⟨rfl, HF.out⟩
        · obtain ⟨y1, y2⟩ := txt_pos hm
          have r3 : ((txt m).getD 0 0 == 45) = false := beq_eq_false_iff_ne.2 (by omega)
          generalize (txt m).getD 0 0 = y at *
          go_wp2_with fail
          refine HP3.out.mono ?_
          rintro e w' ⟨rfl, rfl⟩
          go_wp2_with fail
          go_ret
          exact ⟨rfl, HF.out⟩
  · obtain ⟨z1, z2⟩ := txt_pos hn
    rw [e03] at c0
    have z0 : ds.getD 0 0 = (txt n).getD 0 0 := by
      injection c0 with c0
      injection c0
    have q0 : (ds.getD 0 0 == 45) = false := beq_eq_false_iff_ne.2 (by omega)
    have q2 : ((D : Int) == 0) = false := beq_eq_false_iff_ne.2 (by omega)
    clear c0
    have q11 : (0 : Int) < (D : Int) := by omega
    clear z0 z1 z2
    have q5 : (ds.getD 0 0 == 48) = false ∨ D = 1 := by
      rcases h49 with h | h
      · exact .inl (beq_eq_false_iff_ne.2 (by omega))
      · exact .inr h
    generalize hdd : ds.getD 0 0 = d0 at *
    clear hdd h49
    have q6 : (decide ((1 : Int) < (D : Int))) = true ∨ (decide ((1 : Int) < (D : Int))) = false := by cases decide ((1 : Int) < (D : Int)) <;> simp
    have q7 : (d0 == 48 && decide ((1 : Int) < (D : Int))) = false := by
      rcases q5 with h | h
      · rw [h]; rfl
      · subst h; simp
    clear q5 q6
    by_cases q8 : D ≤ 1
    · have q9 : ¬ (1 : Int) < (D : Int) := by omega
      have q10 : decide ((1 : Int) < (D : Int)) = false := decide_eq_false q9
      cases hq : (d0 == 48)
      all_goals
        clear q7
        go_wp2_with fail
        go_loop [8] (fun t => I1 D t) (fun t => D - (intOf t).toNat)
        case atStart => exact ⟨0, by omega, rfl⟩
        case round =>
          obtain ⟨k, hk, rfl⟩ := hrel
          by_cases hlt : k < D
          · obtain ⟨x1, x2, x3⟩ := HDC.out k hlt
            have HRR : Hid (I1 D (.int .i64 ((k : Int) + 1))) := Lib.hid ⟨k + 1, by omega, by go_num⟩
            generalize ds.getD k 0 = x at *
            have i1 : (k : Int) < (D : Int) := by omega
            have i2 : (0 : Int) ≤ (k : Int) := by omega
            go_wp2_with fail
            go_round
            case rel => first | exact HRR.out | ((repeat apply Exists.intro); exact ⟨HRR.out, rfl⟩) | (refine ⟨trivial, ?_⟩; (repeat apply Exists.intro); exact ⟨HRR.out, rfl⟩)
            case measure => simp [intOf]; omega
          · obtain rfl : D = k := by omega
            clear hlt e03
            go_wp2_with fail
            refine HP.out.mono ?_
            rintro e w' ⟨rfl, rfl⟩
            go_wp2_with fail
            refine (gave w2 g m HB2.out m1 m2).mono ?_
            rintro e w3 ⟨p, M, rfl, hM, hcell, hb3, hs3, hparse⟩
            have hml := txt_len m m1 m2
            have c1 : w3.cell? ⟨g, p, none⟩ = some (.int .u8 ((txt m).getD 0 0)) := hcell 0 (by omega)
            have hM1 : 1 ≤ M := by omega
            have r1 : ((M : Int) == 0) = false := beq_eq_false_iff_ne.2 (by omega)
            have r2 : (0 : Int) < (M : Int) := by omega
            have HP3 := Lib.hid hparse
            have HF : Hid (Below w.heap.size w w3) := by
              refine Lib.hid ?_
              have b1 := HK1.out
              have s1 := HS2.out.trans hs3
              have := s1.below (B := w.heap.size) (by rw [HG.out]; exact Nat.le_refl _) (fun k hk => by cases hk) b1.size
              exact Below.trans b1 this
            clear hparse hcell hb3 hs3 hM hml
            by_cases hm : m < 0
            · rw [txt_neg hm] at c1
              go_wp2_with fail
              refine HP3.out.mono ?_
              rintro e w' ⟨rfl, rfl⟩
              go_wp2_with fail
              go_ret
              exact ⟨rfl, HF.out⟩
            · obtain ⟨y1, y2⟩ := txt_pos hm
              have r3 : ((txt m).getD 0 0 == 45) = false := beq_eq_false_iff_ne.2 (by omega)
              generalize (txt m).getD 0 0 = y at *
              go_wp2_with fail
              refine HP3.out.mono ?_
              rintro e w' ⟨rfl, rfl⟩
              go_wp2_with fail
              go_ret
              exact ⟨rfl, HF.out⟩
    · have hq : (d0 == 48) = false := by
        have : decide ((1 : Int) < (D : Int)) = true := decide_eq_true (by omega)
        rw [this, Bool.and_true] at q7
        exact q7
      clear q7
      go_wp2_with fail
      go_loop [8] (fun t => I1 D t) (fun t => D - (intOf t).toNat)
      case atStart => exact ⟨0, by omega, rfl⟩
      case round =>
        obtain ⟨k, hk, rfl⟩ := hrel
        by_cases hlt : k < D
        · obtain ⟨x1, x2, x3⟩ := HDC.out k hlt
          have HRR : Hid (I1 D (.int .i64 ((k : Int) + 1))) := Lib.hid ⟨k + 1, by omega, by go_num⟩
          generalize ds.getD k 0 = x at *
          have i1 : (k : Int) < (D : Int) := by omega
          have i2 : (0 : Int) ≤ (k : Int) := by omega
          go_wp2_with fail
          go_round
          case rel => first | exact HRR.out | ((repeat apply Exists.intro); exact ⟨HRR.out, rfl⟩) | (refine ⟨trivial, ?_⟩; (repeat apply Exists.intro); exact ⟨HRR.out, rfl⟩)
          case measure => simp [intOf]; omega
        · obtain rfl : D = k := by omega
          clear hlt e03
          go_wp2_with fail
          refine HP.out.mono ?_
          rintro e w' ⟨rfl, rfl⟩
          go_wp2_with fail
          refine (gave w2 g m HB2.out m1 m2).mono ?_
          rintro e w3 ⟨p, M, rfl, hM, hcell, hb3, hs3, hparse⟩
          have hml := txt_len m m1 m2
          have c1 : w3.cell? ⟨g, p, none⟩ = some (.int .u8 ((txt m).getD 0 0)) := hcell 0 (by omega)
          have hM1 : 1 ≤ M := by omega
          have r1 : ((M : Int) == 0) = false := beq_eq_false_iff_ne.2 (by omega)
          have r2 : (0 : Int) < (M : Int) := by omega
          have HP3 := Lib.hid hparse
          have HF : Hid (Below w.heap.size w w3) := by
            refine Lib.hid ?_
            have b1 := HK1.out
            have s1 := HS2.out.trans hs3
            have := s1.below (B := w.heap.size) (by rw [HG.out]; exact Nat.le_refl _) (fun k hk => by cases hk) b1.size
            exact Below.trans b1 this
          clear hparse hcell hb3 hs3 hM hml
          by_cases hm : m < 0
          · rw [txt_neg hm] at c1
            go_wp2_with fail
            refine HP3.out.mono ?_
            rintro e w' ⟨rfl, rfl⟩
            go_wp2_with fail
            go_ret
            exact ⟨rfl, HF.out⟩
          · obtain ⟨y1, y2⟩ := txt_pos hm
            have r3 : ((txt m).getD 0 0 == 45) = false := beq_eq_false_iff_ne.2 (by omega)
            generalize (txt m).getD 0 0 = y at *
            go_wp2_with fail
            refine HP3.out.mono ?_
            rintro e w' ⟨rfl, rfl⟩
            go_wp2_with fail
            go_ret
            exact ⟨rfl, HF.out⟩

theorem wfb {n : Int} (h : (Lit.int .i64 n).wf = true) : -9223372036854775808 ≤ n ∧ n ≤ 9223372036854775807 := by
  simp only [Lit.wf, Bool.and_eq_true, decide_eq_true_eq] at h
  exact h
set_option maxHeartbeats 2000000 in
theorem walk (a0 : Int) (a1 : Int) (w0 : (Lit.int .i64 a0).wf = true) (w1 : (Lit.int .i64 a1).wf = true) (w : World) :
    Calls Try.prog 9 #[.int .i64 a0, .int .i64 a1] w fun e w' => e = .returned (.bool true) ∧ Below w.heap.size w w' := by
  have h0 := wfb w0
  have h1 := wfb w1
  clear w0 w1
  by_cases c0 : a0 = -9223372036854775808
  · subst c0
    go_enter Try.func9, Try.ntmps9
    go_wp2_with fail
    refine (intno w).mono ?_
    rintro e w' ⟨rfl, rfl⟩
    go_wp2_with fail
    go_ret
    exact ⟨rfl, Below.refl _ _⟩
  by_cases c1 : a1 = -9223372036854775808
  · subst c1
    have HI := Lib.hid (intok a0 w (by omega) (by omega))
    go_enter Try.func9, Try.ntmps9
    go_wp2_with fail
    refine HI.out.mono ?_
    rintro e w' ⟨rfl, rfl⟩
    go_wp2_with fail
    refine (intno w).mono ?_
    rintro e w' ⟨rfl, rfl⟩
    go_wp2_with fail
    go_ret
    exact ⟨rfl, Below.refl _ _⟩
  exact main a0 a1 w (by omega) (by omega) (by omega) (by omega)
end Go.Proofs.Ytgoffcpchgepeaa.fnSmallIntToBytesRoundTrip
