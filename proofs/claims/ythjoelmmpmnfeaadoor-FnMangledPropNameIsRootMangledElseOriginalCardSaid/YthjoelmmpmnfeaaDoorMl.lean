/-
  The walk of FnMangledPropNameIsRootMangledElseOriginal over this seat's program, its slices given as rows.
  Conditions: ast.InvalidRef holds its initial value.
-/
import Derived.Test.YthjoelmmpmnfeaaDoorGd2
import Derived.Test.YthjoelmmpmnfeaaDoorZz
import Derived.Test.YthjoelmmpmnfeaaDoorCloneS
import Derived.Test.YthjoelmmpmnfeaaDoorCloneI32
import Derived.Test.YthjoelmmpmnfeaaDoorCloneBo
namespace Go.Proofs.YthjoelmmpmnfeaaDoor.mp
open Go.ChangeShapes Go.WideShapes Go.ChangeAt Go.RowKit
open kit chain arena

def LawTrue (w : World) (e : Ending) (w' : World) : Prop := e = .returned (.bool true) ∧ Below w.heap.size w w'
theorem inv_pos {w : World} (h : Inv w) : 0 < w.heap.size := World.block_lt_of_cell? w _ h.1
set_option maxRecDepth 100000 in
set_option maxHeartbeats 16000000 in
theorem main (a0 : Option Addr) (n0 c0 : Nat) (ss : List ByteArray) (a1 : Option Addr) (n1 c1 : Nat) (zs : List Int) (a2 : Option Addr) (n2 c2 : Nat) (hs : List Bool) (a3 : Option Addr) (n3 c3 : Nat) (ms : List ByteArray) (i : Nat) (w : World)
    (h0 : Row w a0 n0 c0 (ss.map Value.string)) (h1 : Row w a1 n1 c1 (zs.map (Value.int .i32))) (h2 : Row w a2 n2 c2 (hs.map Value.bool)) (h3 : Row w a3 n3 c3 (ms.map Value.string)) (hb : ∀ j, -2147483648 ≤ lk zs j ∧ lk zs j ≤ 2147483647) (hi : i ≤ 4294967295) (hI : Inv w)
    (m0 : n0 ≤ 9223372036854775807) (m1 : n1 ≤ 9223372036854775807) (m2 : n2 ≤ 9223372036854775807) (m3 : n3 ≤ 9223372036854775807) :
    Calls Tryd.prog 3 #[.slice a0 n0 c0, .slice a1 n1 c1, .slice a2 n2 c2, .slice a3 n3 c3, .int .u32 (i : Int)] w (LawTrue w) := by
  have HB := Lib.hid (bytes a0 n0 c0 ss a1 n1 c1 a2 n2 c2 a3 n3 c3 ms (i : Int) w (Strs.of_row h0) (Strs.of_row h3) m0 m1 m2 m3)
  have H0 := Lib.hid h0
  have H1 := Lib.hid h1
  have H2 := Lib.hid h2
  have H3 := Lib.hid h3
  have HI := Lib.hid hI
  have HBD := Lib.hid hb
  clear h0 h1 h2 h3 hI hb
  go_enter Tryd.func3, Tryd.ntmps3
  go_wp2_with fail
  refine HB.out.mono ?_
  rintro e w' ⟨_ | _, rfl, hsm, rfl⟩
  · clear hsm
    go_wp2_with fail
    go_ret
    exact ⟨rfl, Below.refl _ _⟩
  have HSM := Lib.hid (hsm rfl)
  clear hsm HB
  by_cases g0 : 65536 < n0
  · go_wp2_with fail
    go_ret
    exact ⟨rfl, Below.refl _ _⟩
  by_cases g1 : 65536 < n1
  · go_wp2_with fail
    go_ret
    exact ⟨rfl, Below.refl _ _⟩
  by_cases g2 : 65536 < n2
  · go_wp2_with fail
    go_ret
    exact ⟨rfl, Below.refl _ _⟩
  by_cases g3 : 65536 < n3
  · go_wp2_with fail
    go_ret
    exact ⟨rfl, Below.refl _ _⟩
  go_wp2_with fail
  refine (sbytes a0 n0 c0 ss w (Strs.of_row H0.out) HSM.out.1 (by omega)).mono ?_
  rintro e w' ⟨y0, rfl, hy0, rfl⟩
  go_wp2_with fail
  refine (sbytes a3 n3 c3 ms w (Strs.of_row H3.out) HSM.out.2 (by omega)).mono ?_
  rintro e w' ⟨y3, rfl, hy3, rfl⟩
  by_cases gs : 1048576 < y0 + y3 + 4 * (n1 : Int) + (n2 : Int)
  · go_wp2_with fail
    go_ret
    exact ⟨rfl, Below.refl _ _⟩
  go_wp2_with fail
  refine (shape a0 n0 c0 a1 n1 c1 zs a2 n2 c2 a3 n3 c3 i w (Ints.of_row H1.out) HBD.out (by omega) (by omega) (by omega) (by omega) hi).mono ?_
  rintro e w' ⟨_ | _, rfl, hsh, rfl⟩
  · clear hsh
    go_wp2_with fail
    go_ret
    exact ⟨rfl, Below.refl _ _⟩
  obtain ⟨e1, e2, e3, hin, hl, rr, hrr⟩ := hsh rfl
  replace e1 := e1.symm
  replace e2 := e2.symm
  replace e3 := e3.symm
  subst e1
  subst e2
  subst e3
  have HL := Lib.hid hl
  have HRR := Lib.hid hrr
  have hrn := (root_lnk hl _ _ _ hin hrr).1
  obtain ⟨d, hd⟩ := (root_chain ss hl _ _ _ hin hrr).2
  have HD := Lib.hid hd
  clear hsh hl hrr hd HSM gs hy0 hy3
  have HCH := Lib.hid (mf_at hs ms n0 rr)
  go_wp2_with fail
  refine (cloneS.run a0 n0 c0 ss w H0.out (by omega)).mono ?_
  rintro e w1 ⟨p0, rfl, o0, _, k1⟩
  have R0 := Lib.hid (Strs.of_row (Row.of_own o0))
  have K1 := Lib.hid k1
  have C1 := Lib.hid (cloneI32.run a1 n0 c1 zs w1 (H1.out.kept k1) (by omega))
  clear o0 k1 H0
  go_wp2_with fail
  refine C1.out.mono ?_
  rintro e w2 ⟨p1, rfl, o1, _, k2⟩
  have R1 := Lib.hid (Ints.of_row (Row.of_own o1))
  have K2 := Lib.hid (K1.out.trans k2)
  have R0' := Lib.hid (R0.out.kept k2)
  have C2 := Lib.hid (cloneBo.run a2 n0 c2 hs w2 (H2.out.kept K2.out) (by omega))
  clear o1 k2 H1 C1 R0 K1
  go_wp2_with fail
  refine C2.out.mono ?_
  rintro e w3 ⟨p2, rfl, o2, _, k3⟩
  have R2 := Lib.hid (Bools.of_row (Row.of_own o2))
  have K3 := Lib.hid (K2.out.trans k3)
  have R0 := Lib.hid (R0'.out.kept k3)
  have R1' := Lib.hid (R1.out.kept k3)
  have C3 := Lib.hid (cloneS.run a3 n0 c3 ms w3 (H3.out.kept K3.out) (by omega))
  clear o2 k3 H2 C2 R0' R1 K2
  go_wp2_with fail
  refine C3.out.mono ?_
  rintro e w4 ⟨p3, rfl, o3, _, k4⟩
  have Q3 := Lib.hid (Strs.of_row (Row.of_own o3))
  have KW := Lib.hid (K3.out.trans k4)
  have Q0 := Lib.hid (R0.out.kept k4)
  have Q1 := Lib.hid (R1'.out.kept k4)
  have Q2 := Lib.hid (R2.out.kept k4)
  clear o3 k4 H3 C3 R0 R1' R2 K3
  go_wp2_with fail
  refine (root p1 n0 n0 i zs w4 Q1.out HL.out hin (by omega)).mono ?_
  rintro e w' ⟨rfl, rfl⟩
  have hri : rootI zs n0 i = (rr : Int) := by unfold rootI; rw [HRR.out]
  rw [hri]
  clear hri
  go_wp2_with fail
  refine (build p1 p0 n0 n0 n0 zs ss w4 Q1.out Q0.out HL.out (by omega)).mono ?_
  rintro e w5 ⟨g, b, rfl, hg, hbb, hA, k5⟩
  have HA5 := Lib.hid hA
  have K5 := Lib.hid k5
  have hb5 : b < w5.heap.size := hA.lt (s := 0) (by omega)
  clear hA k5
  unfold mapV
  go_upto_region 15 with fail
  have B6 : Hid (Blk (w5.alloc (.cells #[.slice (some ⟨g, 0, none⟩) 1 1] 34)) w5.heap.size 34 [.slice (some ⟨g, 0, none⟩) 1 1]) := Lib.hid (Blk.new w5 34 _)
  have kk6 := (Kept.refl w5).alloc (.cells #[.slice (some ⟨g, 0, none⟩) 1 1] 34)
  have hs6 : (w5.alloc (.cells #[.slice (some ⟨g, 0, none⟩) 1 1] 34)).heap.size = w5.heap.size + 1 := by simp
  have K6 := Lib.hid (K5.out.trans kk6)
  have HA6 := Lib.hid (HA5.out.kept kk6)
  have HS6 := Lib.hid hs6
  clear kk6 HA5 K5 hs6
  generalize w5.alloc (.cells #[.slice (some ⟨g, 0, none⟩) 1 1] 34) = w6 at *
  go_wp2_with fail
  refine (mangle p2 p3 n0 n0 n0 hs ms w6 (Q2.out.kept K6.out) (Q3.out.kept K6.out) (by omega)).mono ?_
  rintro e w7 ⟨rfl, hm, k7⟩
  have HMM := Lib.hid hm
  have K7 := Lib.hid (K6.out.trans k7)
  have HA7 := Lib.hid (HA6.out.kept k7)
  have x0 : w7.cell? ⟨w5.heap.size, 0, none⟩ = some (.slice (some ⟨g, 0, none⟩) 1 1) := (B6.out.kept k7).cell 0
  have hw4 := K7.out.size
  have hpos := inv_pos HI.out
  have hw14 := KW.out.size
  clear hm k7 B6 HA6 K6
  have HZ := Lib.hid (fun (W : World) (k : Kept w7 W) (x : ByteArray) (hx : mf hs ms n0 (key rr) = some (.string x) ∨ (mf hs ms n0 (key rr) = none ∧ x = (symAt (tab zs ss n0) (0, rr)).name)) =>
    (zz W w6.heap.size g (fun _ => b) 1 (tab zs ss n0) d (0, i) rr (mf hs ms n0) x (HA7.out.kept k) ((HI.out.kept (KW.out.trans K7.out)).kept k) (fun s _ => by show b ≠ 0; omega) HD.out (by obtain ⟨m, hm⟩ := HMM.out; exact ⟨m, hm.kept k⟩) (fun s _ => by have := HS6.out; show b ≠ w6.heap.size; omega) (by omega) hx))
  unfold mapV refV at HZ
  obtain ⟨b0, o0, rfl, hb0, hc0⟩ := Q0.out.2 (by omega)
  obtain ⟨b2, o2, rfl, hb2, hc2⟩ := Q2.out.2 (by omega)
  obtain ⟨b3, o3, rfl, hb3, hc3⟩ := Q3.out.2 (by omega)
  have t0 := Lib.hid (hc0 rr hrn)
  have t2 := Lib.hid (hc2 rr hrn)
  have t3 := Lib.hid (hc3 rr hrn)
  have HBB := Lib.hid hbb
  have hrI : (rr : Int) < (n0 : Int) := by omega
  have HNM : Hid ((symAt (tab zs ss n0) (0, rr)).name = ss.getD rr ByteArray.empty) := Lib.hid (by rw [tab_at zs ss hrn]; rfl)
  clear hc0 hc2 hc3 hbb HD HMM HA7 HRR HL
  cases hh : hs.getD rr false
  · have HX := Lib.hid (fun W k => HZ.out W k (ss.getD rr ByteArray.empty) (.inr ⟨by rw [HCH.out, hh]; simp, HNM.out.symm⟩))
    rw [hh] at t2
    clear HZ HCH hh HNM t3
    generalize ss.getD rr ByteArray.empty = nm at *
    go_upto_region 16 with fail
    go_region_with (first | (go_at_call 14; refine (zref (i : Int) _).mono ?_; rintro e w8 ⟨rfl, k8⟩; have kk := (Kept.refl w7).drew.trans k8; have x1 := kk.cell x0) | (go_at_call 13; refine (HX.out _ kk).mono ?_; rintro e w9 ⟨rfl, hT⟩))
    all_goals
      have K49 : Hid (Kept w4 w9) := Lib.hid (Below.trans (K7.out.trans kk) (hT.below (fun s _ => HBB.out) (Nat.le_trans hw4 kk.size)))
      have u0 := K49.out.cell t0.out
      have u2 := K49.out.cell t2.out
      clear hT kk
      go_wp2_with fail
      go_ret
      exact ⟨by simp, KW.out.trans K49.out⟩
  · have HX := Lib.hid (fun W k => HZ.out W k (ms.getD rr ByteArray.empty) (.inl (by rw [HCH.out, hh]; simp [hrn])))
    rw [hh] at t2
    clear HZ HCH hh HNM
    generalize ss.getD rr ByteArray.empty = nm at *
    generalize ms.getD rr ByteArray.empty = nx at *
    go_upto_region 16 with fail
    go_region_with (first | (go_at_call 14; refine (zref (i : Int) _).mono ?_; rintro e w8 ⟨rfl, k8⟩; have kk := (Kept.refl w7).drew.trans k8; have x1 := kk.cell x0) | (go_at_call 13; refine (HX.out _ kk).mono ?_; rintro e w9 ⟨rfl, hT⟩))
    all_goals
      have K49 : Hid (Kept w4 w9) := Lib.hid (Below.trans (K7.out.trans kk) (hT.below (fun s _ => HBB.out) (Nat.le_trans hw4 kk.size)))
      have u0 := K49.out.cell t0.out
      have u2 := K49.out.cell t2.out
      have u3 := K49.out.cell t3.out
      clear hT kk
      go_wp2_with fail
      go_ret
      exact ⟨by simp, KW.out.trans K49.out⟩
end Go.Proofs.YthjoelmmpmnfeaaDoor.mp
