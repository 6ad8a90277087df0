/-
  sort.order2, median, medianAdjacent, choosePivot over this seat's program: they hand back an index of the range and leave the row alone.
  Conditions: the range lies in the row.
-/
import Derived.Test.YtbnkhpbgibgahaaWi
namespace Go.Proofs.Ytbnkhpbgibgahaa.so
open Go.ChangeShapes Go.WideShapes Go.ChangeAt Go.RowKit
open kit ms sq fl Go.Sort

/-- the local that counts the swaps -/
def Cnt (w : World) (g k : Nat) : Prop := ∃ v : Nat, v ≤ k ∧ Blk w g 3 [.int .i64 (v : Int)]
theorem Cnt.kept {w w2 : World} {g k : Nat} (h : Cnt w g k) (hk : Kept w w2) : Cnt w2 g k := by
  obtain ⟨v, h1, h2⟩ := h
  exact ⟨v, h1, h2.kept hk⟩
def Ord (b n : Nat) (sp : List Value) (w0 : World) (d : Array En) (g k x y : Nat) (e : Ending) (w : World) : Prop :=
  ∃ u v : Nat, ((u = x ∧ v = y) ∨ (u = y ∧ v = x)) ∧ e = .returned (.tuple #[.int .i64 (u : Int), .int .i64 (v : Int)]) ∧ Rw b n sp w0 d w ∧ Cnt w g k
def Med (b n : Nat) (sp : List Value) (w0 : World) (d : Array En) (g k x y z : Nat) (e : Ending) (w : World) : Prop :=
  ∃ u : Nat, (u = x ∨ u = y ∨ u = z) ∧ e = .returned (.int .i64 (u : Int)) ∧ Rw b n sp w0 d w ∧ Cnt w g k
def Piv (b n : Nat) (sp : List Value) (w0 : World) (d : Array En) (x y : Nat) (e : Ending) (w : World) : Prop :=
  ∃ u h : Nat, x ≤ u ∧ u < y ∧ h ≤ 2 ∧ e = .returned (.tuple #[.int .i64 (u : Int), .int .i64 (h : Int)]) ∧ Rw b n sp w0 d w

set_option maxRecDepth 100000 in
set_option maxHeartbeats 8000000 in
theorem order2 {b n : Nat} {sp : List Value} {rv : Value} (I : Ifc b n sp rv) (w0 w : World) (d : Array En) (g k x y : Nat) (h : Rw b n sp w0 d w) (hg : w0.heap.size ≤ g) (hc : Cnt w g k) (hk : k ≤ 1000) (hx : x < n) (hy : y < n) :
    Calls Try.prog 36 #[.iface 35 rv, .int .i64 (x : Int), .int .i64 (y : Int), .pointer (some ⟨g, 0, none⟩)] w (Ord b n sp w0 d g (k + 1) x y) := by
  have m1 := mLess rv
  have HI := Lib.hid I
  have HR := Lib.hid h
  obtain ⟨v, hv, hb⟩ := hc
  have HB := Lib.hid hb
  have HG := Lib.hid hg
  clear I h hg hb
  by_cases hl : klt d[y]! d[x]! = true
  · have HL := Lib.hid (HI.out.lessB true y x HR.out hy hx hl (p := (y : Int)) (q := (x : Int)) rfl rfl)
    clear hl
    go_enter Try.func36, Try.ntmps36
    go_wp2_with fail
    refine HL.out.mono ?_
    rintro e w1 ⟨rfl, hr, hk1⟩
    have HR1 := Lib.hid hr
    have HB1 := Lib.hid (HB.out.kept hk1)
    clear hr hk1 HR HB HL
    have c0 := HB1.out.cell 0
    have f0 := HB1.out.free 0
    simp only [List.getElem?_cons_zero] at c0
    go_wp2_with fail
    refine bodyPost_ret (v := .tuple #[.int .i64 (y : Int), .int .i64 (x : Int)]) (by simp [results, Try.results36, go_sem]) rfl ?_
    exact ⟨y, x, .inr ⟨rfl, rfl⟩, rfl, HR1.out.setNew (p := ⟨g, 0, none⟩) HG.out _, v + 1, by omega, HB1.out.set 0 _⟩
  · have HL := Lib.hid (HI.out.lessB false y x HR.out hy hx (by simpa using hl) (p := (y : Int)) (q := (x : Int)) rfl rfl)
    clear hl
    go_enter Try.func36, Try.ntmps36
    go_wp2_with fail
    refine HL.out.mono ?_
    rintro e w1 ⟨rfl, hr, hk1⟩
    have HR1 := Lib.hid hr
    have HB1 := Lib.hid (HB.out.kept hk1)
    clear hr hk1 HR HB HL
    go_wp2_with fail
    refine bodyPost_ret (v := .tuple #[.int .i64 (x : Int), .int .i64 (y : Int)]) (by simp [results, Try.results36, go_sem]) rfl ?_
    exact ⟨x, y, .inl ⟨rfl, rfl⟩, rfl, HR1.out, v, by omega, HB1.out⟩

set_option maxRecDepth 100000 in
set_option maxHeartbeats 8000000 in
theorem median {b n : Nat} {sp : List Value} {rv : Value} (I : Ifc b n sp rv) (w0 w : World) (d : Array En) (g k x y z : Nat) (h : Rw b n sp w0 d w) (hg : w0.heap.size ≤ g) (hc : Cnt w g k) (hk : k ≤ 900) (hx : x < n) (hy : y < n) (hz : z < n) :
    Calls Try.prog 35 #[.iface 35 rv, .int .i64 (x : Int), .int .i64 (y : Int), .int .i64 (z : Int), .pointer (some ⟨g, 0, none⟩)] w (Med b n sp w0 d g (k + 3) x y z) := by
  have HI := Lib.hid I
  have HR := Lib.hid h
  have HC := Lib.hid hc
  have HG := Lib.hid hg
  clear I h hg hc
  go_enter Try.func35, Try.ntmps35
  go_wp2_with fail
  refine (order2 HI.out w0 _ d g (k + 0) x y HR.out HG.out HC.out (by omega) (by omega) (by omega)).mono ?_
  rintro e w1 ⟨u1, v1, o1, rfl, hr, hc⟩
  have HR1 := Lib.hid hr
  have HC1 := Lib.hid hc
  clear hr hc
  go_wp2_with fail
  refine (order2 HI.out w0 _ d g (k + 1) v1 z HR1.out HG.out HC1.out (by omega) (by omega) (by omega)).mono ?_
  rintro e w2 ⟨u2, v2, o2, rfl, hr, hc⟩
  have HR2 := Lib.hid hr
  have HC2 := Lib.hid hc
  clear hr hc
  go_wp2_with fail
  refine (order2 HI.out w0 _ d g (k + 2) u1 u2 HR2.out HG.out HC2.out (by omega) (by omega) (by omega)).mono ?_
  rintro e w3 ⟨u3, v3, o3, rfl, hr, hc⟩
  have HR3 := Lib.hid hr
  have HC3 := Lib.hid hc
  clear hr hc
  go_wp2_with fail
  go_ret
  exact ⟨v3, by omega, rfl, HR3.out, HC3.out⟩

set_option maxRecDepth 100000 in
set_option maxHeartbeats 8000000 in
theorem medianAdj {b n : Nat} {sp : List Value} {rv : Value} (I : Ifc b n sp rv) (w0 w : World) (d : Array En) (g k x : Nat) (h : Rw b n sp w0 d w) (hg : w0.heap.size ≤ g) (hc : Cnt w g k) (hk : k ≤ 900) (hx : x + 2 < n) :
    Calls Try.prog 34 #[.iface 35 rv, .int .i64 ((x : Int) + 1), .pointer (some ⟨g, 0, none⟩)] w (Med b n sp w0 d g (k + 3) x (x + 1) (x + 2)) := by
  have HI := Lib.hid I
  have HR := Lib.hid h
  have HC := Lib.hid hc
  have HG := Lib.hid hg
  have hsm := I.small
  clear I h hg hc
  go_enter Try.func34, Try.ntmps34
  go_wp2_with fail
  have HM := median HI.out w0 w d g k x (x + 1) (x + 2) HR.out HG.out HC.out hk (by omega) (by omega) (by omega)
  rw [show ((x + 1 : Nat) : Int) = (x : Int) + 1 by omega, show ((x + 2 : Nat) : Int) = (x : Int) + 1 + 1 by omega] at HM
  refine HM.mono ?_
  rintro e w1 ⟨u, o, rfl, hr, hc⟩
  have HR1 := Lib.hid hr
  have HC1 := Lib.hid hc
  clear hr hc HM
  go_wp2_with fail
  go_ret
  exact ⟨u, o, rfl, HR1.out, HC1.out⟩
end Go.Proofs.Ytbnkhpbgibgahaa.so
