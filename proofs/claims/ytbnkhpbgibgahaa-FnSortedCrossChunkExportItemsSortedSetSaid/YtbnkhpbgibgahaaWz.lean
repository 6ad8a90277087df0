/-
  sort.pdqsort and sort.Sort over this seat's program: the row is left sorted, a permutation of what it was.
  Conditions: the range lies in the row.
-/
import Derived.Test.YtbnkhpbgibgahaaWq
import Derived.Test.YtbnkhpbgibgahaaWp
import Derived.Test.YtbnkhpbgibgahaaWe
import Derived.Test.YtbnkhpbgibgahaaWh
import Derived.Test.YtbnkhpbgibgahaaSp
namespace Go.Proofs.Ytbnkhpbgibgahaa.so
open Go.ChangeShapes Go.WideShapes Go.ChangeAt Go.RowKit
open kit ms sq fl Go.Sort

theorem partP {b n : Nat} {sp : List Value} {rv : Value} (I : Ifc b n sp rv) (w0 w : World) (d : Array En) (x y p : Nat) (h : Rw b n sp w0 d w) (h1 : x ≤ p) (h2 : p < y) (h0 : x + 1 < y) (hy : y ≤ n) :
    Calls Try.prog 30 #[.iface 35 rv, .int .i64 (x : Int), .int .i64 (y : Int), .int .i64 (p : Int)] w (Parted b n sp w0 (partition klt d x y p)) := by
  obtain ⟨m, rfl⟩ : ∃ m, y = m + 1 := ⟨y - 1, by omega⟩
  exact part I w0 w d x m p h h1 (by omega) (by omega) (by omega)
theorem partEqP {b n : Nat} {sp : List Value} {rv : Value} (I : Ifc b n sp rv) (w0 w : World) (d : Array En) (x y p : Nat) (h : Rw b n sp w0 d w) (h1 : x ≤ p) (h2 : p < y) (h0 : x + 1 < y) (hy : y ≤ n) :
    Calls Try.prog 29 #[.iface 35 rv, .int .i64 (x : Int), .int .i64 (y : Int), .int .i64 (p : Int)] w (PartedEq b n sp w0 (partitionEqual klt d x y p)) := by
  obtain ⟨m, rfl⟩ : ∃ m, y = m + 1 := ⟨y - 1, by omega⟩
  exact partEq I w0 w d x m p h h1 (by omega) (by omega) (by omega)
/-- the range is sorted, all else of the row as it was -/
def Srt (b n : Nat) (sp : List Value) (w0 : World) (x y : Nat) (d : Array En) (e : Ending) (w : World) : Prop :=
  e = .returned (.tuple #[]) ∧ ∃ R, PermIn x y d R ∧ SortedIn klt x y R ∧ Rw b n sp w0 R w
/-- what a call of pdqsort is asked -/
def Rec (b n : Nat) (sp : List Value) (rv : Value) (w0 : World) (m : Nat) : Prop := ∀ (x y limit : Nat) (d : Array En) (w : World), y - x < m → Rw b n sp w0 d w → x ≤ y → y ≤ n → limit ≤ 1000 → Below klt x y d →
  Calls Try.prog 20 #[.iface 35 rv, .int .i64 (x : Int), .int .i64 (y : Int), .int .i64 (limit : Int)] w (Srt b n sp w0 x y d)
/-- the loop -/
def LP (b n : Nat) (sp : List Value) (w0 : World) (x0 y0 : Nat) (d0 : Array En) (t1 t2 t3 t8 t9 : Value) (W : World) : Prop :=
  ∃ (x y l : Nat) (p q : Bool) (d : Array En), t1 = .int .i64 (x : Int) ∧ t2 = .int .i64 (y : Int) ∧ t3 = .int .i64 (l : Int) ∧ t8 = .bool p ∧ t9 = .bool q ∧ l ≤ 1000 ∧ Pd x0 y0 d0 x y d ∧ Rw b n sp w0 d W
/-- some permutation of the range -/
def Som (b n : Nat) (sp : List Value) (w0 : World) (x0 y0 : Nat) (d0 : Array En) (x y : Nat) (W : World) : Prop := ∃ d, Pd x0 y0 d0 x y d ∧ Rw b n sp w0 d W

set_option maxRecDepth 100000 in
set_option maxHeartbeats 8000000 in
theorem pdqRec {b n : Nat} {sp : List Value} {rv : Value} (I : Ifc b n sp rv) (w0 : World) (m : Nat) (ih : Rec b n sp rv w0 m) : Rec b n sp rv w0 (m + 1) := by
  intro x0 y0 limit d0 w hm h hxy hyn hlim hbel
  have m1 := mLess rv
  have HI := Lib.hid I
  have hsm := I.small
  have HIH := Lib.hid ih
  have hsz := h.sz
  have H0 : Hid (LP b n sp w0 x0 y0 d0 (.int .i64 (x0 : Int)) (.int .i64 (y0 : Int)) (.int .i64 (limit : Int)) (.bool true) (.bool true) w) := Lib.hid ⟨x0, y0, limit, true, true, d0, rfl, rfl, rfl, rfl, rfl, hlim, Pd.start hbel hxy (by omega), h⟩
  clear I ih h hbel
  go_enter Try.func20, Try.ntmps20
  go_wp2_with fail
  go_loopw [1, 2, 3, 8, 9] (fun t1 t2 t3 t8 t9 W => LP b n sp w0 x0 y0 d0 t1 t2 t3 t8 t9 W) (fun t1 t2 _ _ _ _ => (intOf t2 - intOf t1).toNat)
  case atStart => exact H0.out
  case round =>
    obtain ⟨x, y, l, p, q, d, rfl, rfl, rfl, rfl, rfl, hl, hpd, hR⟩ := hrel
    have hx := hpd.ab
    have hlo := hpd.lo
    have hhi := hpd.hi
    have HP := Lib.hid hpd
    have HR := Lib.hid hR
    clear hpd hR H0
    by_cases h12 : y - x ≤ 12
    · go_wp2_with (first | (go_at_call 23; refine (insertion HI.out w0 _ d x y HR.out hx (by omega)).mono ?_; rintro e w1 ⟨rfl, hr⟩; have HR1 := Lib.hid hr; clear hr))
      go_end0
      have hs := insertionSort_holds swo d x y hx HP.out.bs
      obtain ⟨f1, f2⟩ := HP.out.fin _ hs.1 hs.2
      exact ⟨rfl, _, f1, f2, HR1.out⟩
    · by_cases hl0 : l = 0
      · subst hl0
        go_wp2_with (first | (go_at_call 24; refine (heap HI.out w0 _ d x y HR.out (by omega) (by omega)).mono ?_; rintro e w1 ⟨rfl, hr⟩; have HR1 := Lib.hid hr; clear hr))
        go_end0
        have hs := heapSort_holds swo d x y hx HP.out.bs
        obtain ⟨f1, f2⟩ := HP.out.fin _ hs.1 hs.2
        exact ⟨rfl, _, f1, f2, HR1.out⟩
      · have hl1 : ((l : Int) == 0) = false := by simp; omega
        go_upto_if 35 with fail
        go_cut [3] from 19 to 128 (fun t W => Hid (∃ l2 : Nat, t = .int .i64 (l2 : Int) ∧ l2 ≤ 1000 ∧ Som b n sp w0 x0 y0 d0 x y W))
        case first =>
          cases p
          · go_wp2_with (first | (go_at_call 25; refine (break_ HI.out w0 _ d x y HR.out (by omega) (by omega)).mono ?_; rintro e w1 ⟨rfl, d2, hp2, hr⟩; have HX : Hid (Som b n sp w0 x0 y0 d0 x y w1) := Lib.hid ⟨d2, HP.out.perm hp2, hr⟩; clear hp2 hr))
            go_meet
            exact Lib.hid ⟨l - 1, by congr 1; omega, by omega, HX.out⟩
          · go_wp2_with fail
            go_meet
            exact Lib.hid ⟨l, rfl, hl, d, HP.out, HR.out⟩
        case rest =>
          obtain ⟨l2, rfl, hl2, d2, hp2, hr2⟩ := hcut.out
          obtain ⟨w2, hw2⟩ : ∃ w2, w2 = wc := ⟨_, rfl⟩
          subst hw2
          have HP2 := Lib.hid hp2
          have HR2 := Lib.hid hr2
          clear hcut hp2 hr2 HP HR hl1 hl0 hl
          go_upto_if 50 with (first | (go_at_call 26; refine (choose HI.out w0 _ d2 x y HR2.out (by omega) (by omega)).mono ?_; rintro e w3 ⟨u, hh, u1, u2, u3, rfl, hr⟩; have HR3 := Lib.hid hr; clear hr))
          go_cut [11, 12] from 19 to 128 (fun t s W => Hid (∃ (u2 h2 : Nat), x ≤ u2 ∧ u2 < y ∧ t = .int .i64 (u2 : Int) ∧ s = .int .i64 (h2 : Int) ∧ Som b n sp w0 x0 y0 d0 x y W))
          case first =>
            by_cases hh2 : hh = 2
            · subst hh2
              go_wp2_with (first | (go_at_call 27; refine (reverse HI.out w0 _ d2 x y HR3.out (by omega) (by omega)).mono ?_; rintro e w4 ⟨rfl, hr⟩; have HX : Hid (Som b n sp w0 x0 y0 d0 x y w4) := Lib.hid ⟨_, HP2.out.perm (reverseRange_holds d2 x y hx HP2.out.bs), hr⟩; clear hr))
              go_meet
              exact Lib.hid ⟨(y - 1) - (u - x), 1, by omega, by omega, by congr 1; omega, rfl, HX.out⟩
            · have hb2 : ((hh : Int) == 2) = false := by simp; omega
              try rw [hb2]
              go_wp2_with fail
              go_meet
              exact Lib.hid ⟨u, hh, u1, u2, rfl, rfl, d2, HP2.out, HR3.out⟩
          case rest =>
            obtain ⟨v, h2, v1, v2, rfl, rfl, d3, hp3, hr3⟩ := hcut.out
            obtain ⟨w4, hw4⟩ : ∃ w4, w4 = wc := ⟨_, rfl⟩
            subst hw4
            have HP4 := Lib.hid hp3
            have HR4 := Lib.hid hr3
            clear hcut hp3 hr3 HP2 HR2 HR3
            go_upto_region 15 with fail
            go_cut [68] from 19 to 128 (fun t W => (∃ c : Bool, t = .bool c) ∧ W = w4)
            case first =>
              by_cases hh1 : h2 = 1
              · subst hh1
                cases p <;> cases q <;> (go_wp2_with fail; go_meet; exact ⟨⟨_, rfl⟩, rfl⟩)
              · have hb1 : ((h2 : Int) == 1) = false := by simp; omega
                cases p <;> cases q <;> (go_wp2_with fail; go_meet; exact ⟨⟨_, rfl⟩, rfl⟩)
            case rest =>
              obtain ⟨⟨c, rfl⟩, rfl⟩ := hcut
              go_upto_if 68 with fail
              go_cut [] from 19 to 128 (fun W => Hid (Som b n sp w0 x0 y0 d0 x y W))
              case first =>
                cases c
                · go_wp2_with fail
                  go_meet
                  exact Lib.hid ⟨d3, HP4.out, HR4.out⟩
                · obtain ⟨R, hRR⟩ : ∃ R, partialInsertionSort klt d3 x y = R := ⟨_, rfl⟩
                  obtain ⟨R1, R2⟩ := R
                  have HPI := Lib.hid hRR
                  clear hRR
                  cases R2
                  · go_wp2_with (first | (go_at_call 28; refine (partIns HI.out w0 _ d3 x y HR4.out (by omega) (by omega)).mono ?_; rw [HPI.out]; rintro e w5 ⟨rfl, hr⟩; have HR5 := Lib.hid hr; clear hr))
                    have hs := partialInsertionSort_holds swo d3 x y (by omega) HP4.out.bs HP4.out.below
                    rw [HPI.out] at hs
                    have HX : Hid (Som b n sp w0 x0 y0 d0 x y w5) := Lib.hid ⟨R1, HP4.out.perm hs.1, HR5.out⟩
                    clear hs
                    go_meet
                    exact HX
                  · go_wp2_with (first | (go_at_call 28; refine (partIns HI.out w0 _ d3 x y HR4.out (by omega) (by omega)).mono ?_; rw [HPI.out]; rintro e w5 ⟨rfl, hr⟩; have HR5 := Lib.hid hr; clear hr))
                    go_end0
                    have hs := partialInsertionSort_holds swo d3 x y (by omega) HP4.out.bs HP4.out.below
                    rw [HPI.out] at hs
                    obtain ⟨f1, f2⟩ := HP4.out.fin _ hs.1 (hs.2 rfl)
                    exact ⟨rfl, R1, f1, f2, HR5.out⟩
              case rest =>
                obtain ⟨d4, hp4, hr4⟩ := hcut.out
                obtain ⟨w6, hw6⟩ : ∃ w6, w6 = wc := ⟨_, rfl⟩
                subst hw6
                have HP6 := Lib.hid hp4
                have HR6 := Lib.hid hr4
                clear hcut hp4 hr4 HP4 HR4
                go_upto_region 17 with fail
                go_cut [82] from 19 to 128 (fun t W => Hid (∃ c : Bool, t = .bool c ∧ (c = true → 0 < x ∧ klt d4[x - 1]! d4[v]! = false) ∧ Rw b n sp w0 d4 W))
                case first =>
                  by_cases hx0 : x = 0
                  · subst hx0
                    go_wp2_with fail
                    go_meet
                    exact Lib.hid ⟨false, rfl, fun e => (by cases e), HR6.out⟩
                  · by_cases hlv : klt d4[x - 1]! d4[v]! = true
                    · have HL := Lib.hid (fun (W : World) (hw : Rw b n sp w0 d4 W) (p1 q1 : Int) (hp : p1 = ((x - 1 : Nat) : Int)) (hq : q1 = (v : Int)) => HI.out.lessB true (x - 1) v hw (by omega) (by omega) hlv hp hq)
                      clear hlv
                      go_wp2_with (first | (go_at_call 14; refine (HL.out _ HR6.out _ _ (by omega) (by omega)).mono ?_; rintro e w7 ⟨rfl, hr, _⟩; have HR7 := Lib.hid hr; clear hr))
                      go_meet
                      exact Lib.hid ⟨false, rfl, fun e => (by cases e), HR7.out⟩
                    · have HLV : Hid (klt d4[x - 1]! d4[v]! = false) := Lib.hid (by simpa using hlv)
                      have HL := Lib.hid (fun (W : World) (hw : Rw b n sp w0 d4 W) (p1 q1 : Int) (hp : p1 = ((x - 1 : Nat) : Int)) (hq : q1 = (v : Int)) => HI.out.lessB false (x - 1) v hw (by omega) (by omega) HLV.out hp hq)
                      clear hlv
                      go_wp2_with (first | (go_at_call 14; refine (HL.out _ HR6.out _ _ (by omega) (by omega)).mono ?_; rintro e w7 ⟨rfl, hr, _⟩; have HR7 := Lib.hid hr; clear hr))
                      go_meet
                      exact Lib.hid ⟨true, rfl, fun _ => ⟨by omega, HLV.out⟩, HR7.out⟩
                case rest =>
                  obtain ⟨c, rfl, hc, hr7⟩ := hcut.out
                  obtain ⟨w7, hw7⟩ : ∃ w7, w7 = wc := ⟨_, rfl⟩
                  subst hw7
                  have HR7 := Lib.hid hr7
                  have HC := Lib.hid hc
                  clear hcut hr7 hc HR6
                  cases c
                  · obtain ⟨R, hRR⟩ : ∃ R, partition klt d4 x y v = R := ⟨_, rfl⟩
                    obtain ⟨mid, ap, d5⟩ := R
                    obtain ⟨q1, q2, q3, q4, q5, q6, q7⟩ := HP6.out.part v1 v2 hRR
                    have HPI := Lib.hid hRR
                    have HQ4 := Lib.hid q4
                    have HQ5 := Lib.hid q5
                    have HQ6 := Lib.hid q6
                    have HQ7 := Lib.hid q7
                    clear hRR q3 q4 q5 q6 q7 HC
                    go_upto_if 108 with (first | (go_at_call 30; refine (partP HI.out w0 _ d4 x y v HR7.out v1 v2 (by omega) (by omega)).mono ?_; rw [HPI.out]; rintro e w8 ⟨rfl, hr⟩; have HR8 := Lib.hid hr; clear hr))
                    by_cases hlr : mid - x < y - mid
                    · go_wp2_with (first | (go_at_call 20; refine (HIH.out x mid l2 d5 _ (by omega) HR8.out (by omega) (by omega) hl2 HQ4.out).mono ?_; rintro e w9 ⟨rfl, R2, r1, r2, hr⟩; have HN : Hid (∀ bb, LP b n sp w0 x0 y0 d0 (.int .i64 ((mid : Int) + 1)) (.int .i64 (y : Int)) (.int .i64 (l2 : Int)) (.bool bb) (.bool ap) w9) := Lib.hid (fun bb => ⟨mid + 1, y, l2, bb, ap, R2, by go_num, rfl, rfl, rfl, rfl, hl2, HQ6.out R2 r1 r2, hr⟩); clear hr r1 r2))
                      go_roundw
                      case rel => first | exact HN.out _ | ((repeat apply Exists.intro); exact ⟨HN.out _, rfl⟩)
                      case measure => simp [intOf] <;> omega
                    · go_wp2_with (first | (go_at_call 20; refine ((HIH.out (mid + 1) y l2 d5 _ (by omega) HR8.out (by omega) (by omega) hl2 HQ5.out)).mono ?_; rintro e w9 ⟨rfl, R2, r1, r2, hr⟩; have HN : Hid (∀ bb, LP b n sp w0 x0 y0 d0 (.int .i64 (x : Int)) (.int .i64 (mid : Int)) (.int .i64 (l2 : Int)) (.bool bb) (.bool ap) w9) := Lib.hid (fun bb => ⟨x, mid, l2, bb, ap, R2, rfl, rfl, rfl, rfl, rfl, hl2, HQ7.out R2 r1 r2, hr⟩); clear hr r1 r2))
                      go_roundw
                      case rel => first | exact HN.out _ | ((repeat apply Exists.intro); exact ⟨HN.out _, rfl⟩)
                      case measure => simp [intOf] <;> omega
                  · obtain ⟨hx0, hnl⟩ := HC.out rfl
                    obtain ⟨R, hRR⟩ : ∃ R, partitionEqual klt d4 x y v = R := ⟨_, rfl⟩
                    obtain ⟨mid, d5⟩ := R
                    obtain ⟨q1, q2⟩ := HP6.out.eq_ hx0 v1 v2 hnl hRR
                    have q3 := q2.ab
                    have HPI := Lib.hid hRR
                    have HQ2 := Lib.hid q2
                    clear hRR q2 hnl HC
                    go_wp2_with (first | (go_at_call 29; refine (partEqP HI.out w0 _ d4 x y v HR7.out v1 v2 (by omega) (by omega)).mono ?_; rw [HPI.out]; rintro e w8 ⟨rfl, hr⟩; have HN : Hid (LP b n sp w0 x0 y0 d0 (.int .i64 (mid : Int)) (.int .i64 (y : Int)) (.int .i64 (l2 : Int)) (.bool p) (.bool q) w8) := Lib.hid ⟨mid, y, l2, p, q, d5, rfl, rfl, rfl, rfl, rfl, hl2, HQ2.out, hr⟩; clear hr))
                    go_roundw
                    case rel => first | exact HN.out | ((repeat apply Exists.intro); exact ⟨HN.out, rfl⟩)
                    case measure => simp [intOf] <;> omega

theorem pdqAll {b n : Nat} {sp : List Value} {rv : Value} (I : Ifc b n sp rv) (w0 : World) : ∀ m, Rec b n sp rv w0 m := by
  intro m
  induction m with
  | zero => intro x y l d w h; omega
  | succ m ih => exact pdqRec I w0 m ih
theorem mLen (rv : Value) : ∀ W : World, (method 764 35 rv "Len").run Try.prog W = .ok (53, rv) W := fun W => by kernel_rfl

set_option maxRecDepth 100000 in
set_option maxHeartbeats 8000000 in
theorem sort (b n c : Nat) (sp : List Value) (w0 w : World) (d : Array En) (h : Rw b n sp w0 d w) (hn : n < 1152921504606846976) :
    Calls Try.prog 18 #[.iface 35 (rowV b n c)] w (Srt b n sp w0 0 n d) := by
  have m0 := mLen (rowV b n c)
  have HR := Lib.hid h
  have HL := Lib.hid (fun W => len b n c W)
  have HB := Lib.hid (fun W => Try.bits_Len (n : Int) W (by omega) (by omega))
  rw [Int.toNat_natCast] at HB
  have HP := Lib.hid (fun l hl => pdqAll (ifc b n c sp hn) w0 (n + 1) 0 n l d w (by omega) HR.out (Nat.zero_le _) (Nat.le_refl _) hl (.inl rfl))
  have hbl : Lib.bitLen n ≤ 1000 := Nat.le_trans (Lib.bitLen_le n 62 (by omega) (by omega)) (by omega)
  have hsz := h.sz
  clear h
  generalize rowV b n c = rv at *
  by_cases h1 : n ≤ 1
  · have hi1 : (n : Int) ≤ 1 := by omega
    go_enter Try.func18, Try.ntmps18
    go_wp2_with (first | (go_at_call 53; refine (HL.out _).mono ?_; rintro e w' ⟨rfl, rfl⟩))
    go_end0
    exact ⟨rfl, d, permIn_refl _ _ _, fun i j a1 a2 a3 => by omega, HR.out⟩
  · have hi1 : ¬ (n : Int) ≤ 1 := by omega
    go_enter Try.func18, Try.ntmps18
    go_wp2_with (first
      | (go_at_call 53; refine (HL.out _).mono ?_; rintro e w' ⟨rfl, rfl⟩)
      | (go_at_call 19; refine (HB.out _).mono ?_; rintro e w' ⟨rfl, rfl⟩)
      | (go_at_call 20; refine (HP.out _ hbl).mono ?_; rintro e w1 ⟨rfl, R, r1, r2, r3⟩; have HX : Hid (Srt b n sp w0 0 n d (.returned (.tuple #[])) w1) := Lib.hid ⟨rfl, R, r1, r2, r3⟩; clear r1 r2 r3))
    go_end0
    exact HX.out
end Go.Proofs.Ytbnkhpbgibgahaa.so
