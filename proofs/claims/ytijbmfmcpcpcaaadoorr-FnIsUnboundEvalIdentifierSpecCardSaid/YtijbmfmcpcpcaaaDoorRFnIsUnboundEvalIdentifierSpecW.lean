/-
  The walk of FnIsUnboundEvalIdentifierSpec: For an acyclic symbol table, isUnboundEvalIdentifier answers true exactly for a plain identifier whose root symbol is unbound and named eval.
  Conditions: none beyond those of the given statement Rows.FnIsUnboundEvalIdentifierSpecSaid.
-/
import Derived.Test.YtijbmfmcpcpcaaaDoorRRows
import Derived.WalkKit
import Derived.ProofKit
import Derived.OpenShut
import Derived.ShutString
import Derived.ChangeOld
import Derived.Below
import Derived.Test.YtijbmfmcpcpcaaaDoorRR88b
import Derived.Test.YtijbmfmcpcpcaaaDoorRCloneS
import Derived.Test.YtijbmfmcpcpcaaaDoorRCloneU8
import Derived.Test.YtijbmfmcpcpcaaaDoorRCloneI32
namespace Go.Proofs.YtijbmfmcpcpcaaaDoorR.fnIsUnboundEvalIdentifierSpec
open Go.ChangeShapes Go.WideShapes Go.ChangeAt Go.RowKit
open Go.ChangeMaps (open_string shut_string)
set_option linter.unusedVariables false


/-- WHAT THE WALK IS TOLD OF A SLICE OF INTEGERS THAT CAME IN: it is nil; or it leads to a row of 'cap' cells, the numbers 'zs' (the first 'len' are its elements, the rest its spare room), each fitting its kind. -/
def IsRow (k : IntKind) (w : World) (a : Option Addr) (len cap : Nat) (zs : List Int) : Prop :=
  (a = none ∧ len = 0 ∧ cap = 0 ∧ zs = []) ∨
  ∃ x, a = some x ∧ len ≤ cap ∧ cap ≤ maxLen ∧ zs.length = cap ∧ (∀ i, i < zs.length → w.cell? (x.add i) = some (.int k (zs.getD i 0))) ∧ ∀ n ∈ zs, (Lit.int k n).wf = true

/-- what the walk is told of a slice of strings that came in -/
def IsStrs (w : World) (a : Option Addr) (len cap : Nat) (zs : List ByteArray) : Prop :=
  (a = none ∧ len = 0 ∧ cap = 0 ∧ zs = []) ∨
  ∃ x, a = some x ∧ len ≤ cap ∧ cap ≤ maxLen ∧ zs.length = cap ∧ (∀ i, i < zs.length → w.cell? (x.add i) = some (.string (zs.getD i ByteArray.empty))) ∧ ∀ s ∈ zs, s.size ≤ maxLen

open kit chain arena lk syms unb plan69 r88

theorem evalB_mkS (ss : List ByteArray) (ks zs : List Int) (i : Nat) (h : 0 ≤ ks.getD i (-1)) : evalB (mkS ss ks zs i) = ((ks.getD i (-1) == 0) && ((ss.getD i ByteArray.empty).toList == [101, 118, 97, 108])) := by
  have h1 : decide ((mkS ss ks zs i).kind = 0) = (ks.getD i (-1) == 0) := by
    show decide ((ks.getD i (-1)).toNat = 0) = _
    rw [Bool.eq_iff_iff]; simp only [decide_eq_true_eq, beq_iff_eq]; omega
  unfold evalB
  rw [h1]
  rfl

set_option maxRecDepth 100000 in
set_option maxHeartbeats 8000000 in
theorem main (a0 : Option Addr) (n c0 : Nat) (ss : List ByteArray) (a1 : Option Addr) (c1 : Nat) (ks : List Int) (a2 : Option Addr) (c2 : Nat) (zs : List Int) (i : Nat) (s : Int) (w : World) (h0 : Row w a0 n c0 (ss.map Value.string)) (h1 : Row w a1 n c1 (ks.map (Value.int .u8))) (h2 : Row w a2 n c2 (zs.map (Value.int .i32)))
    (HBY : Calls Tryd.prog 14 #[.slice a0 n c0, .slice a1 n c1, .slice a2 n c2, .int .i32 (i : Int), .int .u8 s] w (AnyBool w))
    (HFT : Calls Tryd.prog 15 #[.slice a0 n c0, .slice a1 n c1, .slice a2 n c2, .int .i32 (i : Int)] w (AnyBool w))
    (hb : ∀ j, j < n → -1 ≤ zs.getD j (-1) ∧ zs.getD j (-1) < (j : Int)) (hk : ∀ j, j < n → 0 ≤ ks.getD j (-1)) (hn : n ≤ 65536) (hin : i < n) (s0 : 0 ≤ s) (hI : Inv w) :
    Calls Tryd.prog 4 #[.slice a0 n c0, .slice a1 n c1, .slice a2 n c2, .int .i32 (i : Int), .int .u8 s] w fun e w' => e = .returned (.bool true) ∧ Below w.heap.size w w' := by
  have HBY' := Lib.hid HBY
  have HFT' := Lib.hid HFT
  have HI := Lib.hid hI
  have HK := Lib.hid hk
  have HB := Lib.hid hb
  have H1 := Lib.hid h1
  have H2 := Lib.hid h2
  have C0 := Lib.hid (cloneS.run a0 n c0 ss w h0 (by omega))
  clear HBY HFT hI hk hb h0 h1 h2
  go_enter Tryd.func4, Tryd.ntmps4
  go_wp2_with fail
  refine HBY'.out.mono ?_
  rintro e w' ⟨_ | _, rfl, rfl⟩
  · go_wp2_with fail
    go_ret
    exact ⟨rfl, Below.refl _ _⟩
  go_wp2_with fail
  refine HFT'.out.mono ?_
  rintro e w' ⟨_ | _, rfl, rfl⟩
  · go_wp2_with fail
    go_ret
    exact ⟨rfl, Below.refl _ _⟩
  go_wp2_with fail
  refine C0.out.mono ?_
  rintro e w1 ⟨p0, rfl, o0, _, k1⟩
  have R0 := Lib.hid (Strs.of_row (Row.of_own o0))
  have K1 := Lib.hid k1
  have C1 := Lib.hid (cloneU8.run a1 n c1 ks w1 (H1.out.kept k1) (by omega))
  clear o0 k1
  go_wp2_with fail
  refine C1.out.mono ?_
  rintro e w2 ⟨p1, rfl, o1, _, k2⟩
  have R1 := Lib.hid (r88.Ints.of_row (Row.of_own o1))
  have K2 := Lib.hid k2
  have C2 := Lib.hid (cloneI32.run a2 n c2 zs w2 ((H2.out.kept K1.out).kept k2) (by omega))
  clear o1 k2
  go_wp2_with fail
  refine C2.out.mono ?_
  rintro e w3 ⟨p2, rfl, o2, _, k3⟩
  have R2 := Lib.hid (r88.Ints.of_row (Row.of_own o2))
  have K3 := Lib.hid k3
  have R0' := Lib.hid ((R0.out.kept K2.out).kept k3)
  have R1' := Lib.hid (R1.out.kept k3)
  have KW3 := Lib.hid ((K1.out.trans K2.out).trans k3)
  have HBU := Lib.hid (build20 p0 p1 p2 n n n n ss ks zs w3 R0'.out R1'.out R2.out HB.out HK.out hn)
  clear o2 k3 R0 R1 C0 C1 C2 H1 H2 HBY' HFT'
  go_wp2_with fail
  refine HBU.out.mono ?_
  rintro e w4 ⟨g, b, rfl, hg, hbb, hA, hK4⟩
  have HA := Lib.hid hA
  have HK4 := Lib.hid hK4
  have hbl : b < w4.heap.size := hA.lt (s := 0) (by omega)
  have H9 := Lib.hid (new19 w4 g 1 (fun _ => b) (fun s hs => hbl))
  clear hA hK4 HBU
  unfold mapV at H9 ⊢
  go_wp2_with fail
  refine H9.out.mono ?_
  rintro e w5 ⟨rfl, hP, hK5⟩
  have HP := Lib.hid hP
  have HK5 := Lib.hid hK5
  clear hP hK5 H9
  go_wp2_with fail
  refine (ident21 _ _ _).mono ?_
  rintro e w6 ⟨ge, rfl, hge, hBX, hK6⟩
  have K56 : Kept w5 w6 := ((Kept.refl w5).alloc _).trans hK6
  have hge5 : w5.heap.size < ge := by have : (w5.alloc (.cells #[.int .u32 0, .int .u32 (i : Int)] 35)).heap.size = w5.heap.size + 1 := by simp
                                      omega
  have BR : Blk w6 w5.heap.size 35 [.int .u32 0, .int .u32 (i : Int)] := (Blk.new w5 35 [.int .u32 0, .int .u32 (i : Int)]).kept hK6
  have u0 : w6.cell? ⟨w5.heap.size, 0, none⟩ = some (.int .u32 0) := BR.cell 0
  have u1 : w6.cell? ⟨w5.heap.size, 1, none⟩ = some (.int .u32 (i : Int)) := BR.cell 1
  have hlt6 := BR.lt
  have HK6 := Lib.hid K56
  have HBX := Lib.hid hBX
  clear hK6 hBX K56 BR hge
  have K36 : Hid (Kept w3 w6) := Lib.hid (HK4.out.trans (HK5.out.trans HK6.out))
  have hs6 : w3.heap.size ≤ w6.heap.size := K36.out.size
  by_cases c1 : s = 1
  · subst c1
    go_wp2_with fail
    refine (import22 _ _ _).mono ?_
    rintro e w7 ⟨x, rfl, hK7⟩
    have B7 : Blk w7 w6.heap.size 43 [.iface 33 (.pointer (some ⟨ge, 0, none⟩)), .int .i32 0] := (Blk.new w6 43 [.iface 33 (.pointer (some ⟨ge, 0, none⟩)), .int .i32 0]).kept hK7
    have v0 : w7.cell? ⟨w6.heap.size, 0, none⟩ = some (.iface 33 (.pointer (some ⟨ge, 0, none⟩))) := B7.cell 0
    have v1 : w7.cell? ⟨w6.heap.size, 1, none⟩ = some (.int .i32 0) := B7.cell 1
    have f0 := B7.free 0
    have f1 := B7.free 1
    have K37 : Hid (Kept w3 w7) := Lib.hid (K36.out.trans (((Kept.refl w6).alloc _).trans hK7))
    clear hK7 B7
    go_wp2_with fail
    refine (no24 _ _ 66 _ (fun W => as66 W _)).mono ?_
    rintro e w8 ⟨rfl, hK8⟩
    have K38 : Hid (Kept w3 w8) := Lib.hid (((K37.out.setCell (by show w3.heap.size ≤ w6.heap.size; exact hs6) _).setCell (by show w3.heap.size ≤ w6.heap.size; exact hs6) _).trans hK8)
    clear hK8 v0 v1 f0 f1
    go_wp2_with fail
    refine (root25 p2 n n i zs w8 (R2.out.kept K38.out) HB.out hin hn).mono ?_
    rintro e w' ⟨rfl, rfl⟩
    generalize rootOf zs i = rt at *
    go_wp2_with fail
    go_ret
    exact ⟨rfl, KW3.out.trans K38.out⟩
  have d1 : (s == 1) = false := by simpa using c1
  by_cases c2 : s = 2
  · subst c2
    go_wp2_with fail
    refine (null23 _).mono ?_
    rintro e w7 ⟨x, rfl, hK7⟩
    have B7 : Blk w7 w6.heap.size 43 [.iface 33 (.pointer (some ⟨ge, 0, none⟩)), .int .i32 0] := (Blk.new w6 43 [.iface 33 (.pointer (some ⟨ge, 0, none⟩)), .int .i32 0]).kept hK7
    have v0 : w7.cell? ⟨w6.heap.size, 0, none⟩ = some (.iface 33 (.pointer (some ⟨ge, 0, none⟩))) := B7.cell 0
    have v1 : w7.cell? ⟨w6.heap.size, 1, none⟩ = some (.int .i32 0) := B7.cell 1
    have f0 := B7.free 0
    have f1 := B7.free 1
    have K37 : Hid (Kept w3 w7) := Lib.hid (K36.out.trans (((Kept.refl w6).alloc _).trans hK7))
    clear hK7 B7
    go_wp2_with fail
    refine (no24 _ _ 132 _ (fun W => as132 W _)).mono ?_
    rintro e w8 ⟨rfl, hK8⟩
    have K38 : Hid (Kept w3 w8) := Lib.hid (((K37.out.setCell (by show w3.heap.size ≤ w6.heap.size; exact hs6) _).setCell (by show w3.heap.size ≤ w6.heap.size; exact hs6) _).trans hK8)
    clear hK8 v0 v1 f0 f1
    go_wp2_with fail
    refine (root25 p2 n n i zs w8 (R2.out.kept K38.out) HB.out hin hn).mono ?_
    rintro e w' ⟨rfl, rfl⟩
    generalize rootOf zs i = rt at *
    go_wp2_with fail
    go_ret
    exact ⟨rfl, KW3.out.trans K38.out⟩
  have d2 : (s == 2) = false := by simpa using c2
  clear c1 c2
  go_wp2_with fail
  obtain ⟨d, hd⟩ := chain_upS ss ks zs n i hin
  have hrn : rootOf zs i < n := Nat.lt_of_le_of_lt (root_le zs i) hin
  have hkd := HK.out (rootOf zs i) hrn
  have hev : evalB (symAt (fun _ => upS ss ks zs n n) (0, rootOf zs i)) = ((ks.getD (rootOf zs i) (-1) == 0) && ((ss.getD (rootOf zs i) ByteArray.empty).toList == [101, 118, 97, 108])) := by
    rw [symAt_upS ss ks zs hrn, evalB_mkS ss ks zs _ hkd]
  have hpos : 0 < w.heap.size := World.block_lt_of_cell? w _ HI.out.1
  have hw3 := KW3.out.size
  obtain ⟨w7, hw7, K67⟩ : ∃ w7, w7 = w6.alloc (.cells #[.iface 33 (.pointer (some ⟨ge, 0, none⟩)), .int .i32 0] 43) ∧ Kept w6 w7 := ⟨_, rfl, (Kept.refl w6).alloc _⟩
  rw [← hw7]
  have K37 := K36.out.trans K67
  have K57 := HK6.out.trans K67
  have K47 := HK5.out.trans K57
  have BX := HBX.out.kept K67
  have hs45 := HK5.out.size
  have H24 := unb24 w7 (w4.heap.size + 1) ge g (fun _ => b) 1 (fun _ => upS ss ks zs n n) d (0, i) (0, rootOf zs i) (HA.out.kept K47) (HI.out.kept (KW3.out.trans K37)) (fun s hs => by show b ≠ 0; omega) hd (HP.out.kept K57) ⟨BX.cell 0, BX.cell 1, fun s hs => by show b ≠ ge; omega⟩
  rw [hev] at H24
  have HK37 := Lib.hid K37
  clear hw7 K67 K37 K57 K47 BX hd hev HI HA HP HBX
  refine H24.mono ?_
  rintro e w8 ⟨rfl, hA8, hT8⟩
  have K38 : Hid (Kept w3 w8) := Lib.hid (Below.trans HK37.out (hT8.below (fun s hs => hbb) HK37.out.size))
  obtain ⟨b0, o0, rfl, hb0, hc0⟩ := R0'.out.2 (by omega)
  obtain ⟨b1, o1, rfl, hb1, hc1⟩ := R1'.out.2 (by omega)
  have x0 := K38.out.cell (hc0 (rootOf zs i) hrn)
  have x1 := K38.out.cell (hc1 (rootOf zs i) hrn)
  have hri : ((rootOf zs i : Nat) : Int) < (n : Int) := by omega
  clear hA8 hT8 H24 hc0 hc1
  generalize ks.getD (rootOf zs i) (-1) = kd at *
  generalize ss.getD (rootOf zs i) ByteArray.empty = nm at *
  by_cases hU : kd = 0
  · subst hU
    have e1 : ((0 : Int) == 0) = true := rfl
    rw [e1, Bool.true_and]
    go_wp2_with fail
    refine (root25 p2 n n i zs w8 (R2.out.kept K38.out) HB.out hin hn).mono ?_
    rintro e w' ⟨rfl, rfl⟩
    generalize rootOf zs i = rt at *
    go_wp2_with fail
    go_ret
    exact ⟨by simp, KW3.out.trans K38.out⟩
  · have e1 : (kd == 0) = false := by simpa using hU
    rw [e1, Bool.false_and]
    clear hU
    go_wp2_with fail
    refine (root25 p2 n n i zs w8 (R2.out.kept K38.out) HB.out hin hn).mono ?_
    rintro e w' ⟨rfl, rfl⟩
    generalize rootOf zs i = rt at *
    go_wp2_with fail
    go_ret
    exact ⟨rfl, KW3.out.trans K38.out⟩

theorem walk (a0 : Option Addr) (len0 cap0 : Nat) (z0 : List ByteArray) (a1 : Option Addr) (len1 cap1 : Nat) (z1 : List Int) (a2 : Option Addr) (len2 cap2 : Nat) (z2 : List Int) (a3 : Int) (a4 : Int) (w : World) (w0 : IsStrs w a0 len0 cap0 z0) (w1 : IsRow .u8 w a1 len1 cap1 z1) (w2 : IsRow .i32 w a2 len2 cap2 z2) (w3 : (Lit.int .i32 a3).wf = true) (w4 : (Lit.int .u8 a4).wf = true)
    (hi0 : w.cell? ⟨0, 0, none⟩ = some (.int .u32 4294967295)) (hi1 : w.cell? ⟨0, 1, none⟩ = some (.int .u32 4294967295)) :
    Calls Tryd.prog 4 #[.slice a0 len0 cap0, .slice a1 len1 cap1, .slice a2 len2 cap2, .int .i32 a3, .int .u8 a4] w fun e w' => e = .returned (.bool true) ∧ Below w.heap.size w w' := by
  have hm0 : len0 ≤ 9223372036854775807 := by
    rcases w0 with ⟨rfl, rfl, rfl, rfl⟩ | ⟨x, rfl, hl, hm, hz, hc, hw⟩
    · omega
    · unfold maxLen at hm; omega
  have hm1 : len1 ≤ 9223372036854775807 := by
    rcases w1 with ⟨rfl, rfl, rfl, rfl⟩ | ⟨x, rfl, hl, hm, hz, hc, hw⟩
    · omega
    · unfold maxLen at hm; omega
  have hm2 : len2 ≤ 9223372036854775807 := by
    rcases w2 with ⟨rfl, rfl, rfl, rfl⟩ | ⟨x, rfl, hl, hm, hz, hc, hw⟩
    · omega
    · unfold maxLen at hm; omega
  have H0 : Hid (Row w a0 len0 cap0 ((z0.take len0).map Value.string)) := by
    rcases w0 with ⟨rfl, rfl, rfl, rfl⟩ | ⟨x, rfl, hl, hm, hz, hc, hw⟩
    · exact Lib.hid (Row.nil w)
    · exact Lib.hid (strRow hl hm hz hc)
  have H1 : Hid (Row w a1 len1 cap1 ((z1.take len1).map (Value.int .u8))) := by
    rcases w1 with ⟨rfl, rfl, rfl, rfl⟩ | ⟨x, rfl, hl, hm, hz, hc, hw⟩
    · exact Lib.hid (Row.nil w)
    · exact Lib.hid (Row.of_cells hl hm hz hc)
  have H2 : Hid (Row w a2 len2 cap2 ((z2.take len2).map (Value.int .i32))) := by
    rcases w2 with ⟨rfl, rfl, rfl, rfl⟩ | ⟨x, rfl, hl, hm, hz, hc, hw⟩
    · exact Lib.hid (Row.nil w)
    · exact Lib.hid (Row.of_cells hl hm hz hc)
  have HB : Hid (∀ j, -2147483648 ≤ (z2.take len2).getD j (-1) ∧ (z2.take len2).getD j (-1) ≤ 2147483647) := by
    refine Lib.hid (getD_mem (P := fun x => -2147483648 ≤ x ∧ x ≤ 2147483647) (fun x hx => ?_) (by omega))
    rcases w2 with ⟨rfl, rfl, rfl, rfl⟩ | ⟨y, rfl, hl, hm, hz, hc, hw⟩
    · simp at hx
    · exact wfi (hw x (List.mem_of_mem_take hx))
  have HK : Hid (∀ j, j < len1 → 0 ≤ (z1.take len1).getD j (-1)) := by
    refine Lib.hid (fun j hj => getD_mem2 (P := fun x => 0 ≤ x) (fun x hx => ?_) (by have := H1.out.1; simp only [List.length_map] at this; omega))
    rcases w1 with ⟨rfl, rfl, rfl, rfl⟩ | ⟨y, rfl, hl, hm, hz, hc, hw⟩
    · simp at hx
    · exact (wfu (hw x (List.mem_of_mem_take hx))).1
  obtain ⟨q0, q1⟩ := wfi w3
  obtain ⟨e0, e1⟩ := wfu w4
  have HI : Hid (Inv w) := Lib.hid ⟨hi0, hi1⟩
  clear w0 w1 w2 w3 w4 hi0 hi1
  have HBY := Lib.hid (bytes14 a0 len0 cap0 _ a1 len1 cap1 a2 len2 cap2 a3 a4 w (Strs.of_row H0.out) hm0 hm1 hm2)
  have HFT := Lib.hid (fit15 a0 len0 cap0 _ a1 len1 cap1 a2 len2 cap2 _ a3 w (Strs.of_row H0.out) (r88.Ints.of_row H2.out) HB.out q0 q1 hm0 hm1 hm2)
  by_cases hF : FitOk len0 len1 len2 a3 (z2.take len2)
  · obtain ⟨rfl, rfl, f3, f4, f5, f6, f7⟩ := hF
    obtain ⟨i, rfl⟩ := Int.eq_ofNat_of_zero_le f5
    exact main a0 _ cap0 _ a1 cap1 _ a2 cap2 _ i a4 w H0.out H1.out H2.out HBY.out (HFT.out.mono (fun e w' ⟨b, h1, h2, _⟩ => ⟨b, h1, h2⟩)) f7 HK.out f4 (by omega) e0 HI.out
  · have HFT' := Lib.hid (HFT.out.mono (fun (e : Ending) (w' : World) (hh : Fits w len0 len1 len2 a3 (z2.take len2) e w') => (show e = Ending.returned (.bool false) ∧ w = w' from by
      obtain ⟨b, h1, h2, h3⟩ := hh
      cases b
      · exact ⟨h1, h2⟩
      · exact absurd (h3 rfl) hF)))
    clear HFT hF
    go_enter Tryd.func4, Tryd.ntmps4
    go_wp2_with fail
    refine HBY.out.mono ?_
    rintro e w' ⟨_ | _, rfl, rfl⟩
    · go_wp2_with fail
      go_ret
      exact ⟨rfl, Below.refl _ _⟩
    go_wp2_with fail
    refine HFT'.out.mono ?_
    rintro e w' ⟨rfl, rfl⟩
    go_wp2_with fail
    go_ret
    exact ⟨rfl, Below.refl _ _⟩
end Go.Proofs.YtijbmfmcpcpcaaaDoorR.fnIsUnboundEvalIdentifierSpec
