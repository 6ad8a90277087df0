/-
  The walk of FnTryToGetImportedEnumValueSameThroughAliases over this seat's program, its slices given as rows.
  Conditions: ast.InvalidRef holds its initial value.
-/
import Derived.Test.YtcndjkndmmcagaaDoorMs
namespace Go.Proofs.YtcndjkndmmcagaaDoor.mp
open Go.ChangeShapes Go.WideShapes Go.ChangeAt Go.RowKit
open kit chain arena

def LawTrue (w : World) (e : Ending) (w' : World) : Prop := e = .returned (.bool true) ∧ Below w.heap.size w w'
theorem inv_pos {w : World} (h : Inv w) : 0 < w.heap.size := World.block_lt_of_cell? w _ h.1
theorem turn_cellB {w w2 : World} {b : Nat} (h : Turn w w2 (fun _ => b) 1) {a : Addr} {v : Value} (hc : w.cell? a = some v) (hn : b ≠ a.block) : w2.cell? a = some v := h.cell hc (fun _ _ => hn)
/-- the answer, whatever the root: a readable value -/
theorem ans_of {w wS : World} {b rr kd : Nat} {F : Value → Option Value} {nm : ByteArray} (hF : ∀ x v, F x = some v → ∃ (mb m : Nat) (f : Value → Option Value), v = .map (some mb) ∧ b ≠ mb ∧ mapf.MapF Tryd.prog 9 w mb m f ∧ ∀ y u, f y = some u → Good wS u) :
    ∃ a n c x ok, Ans w 1 (fun _ => b) F rr kd nm (.agg #[.slice a n c, .float .f64 x]) ok ∧ Good wS (.agg #[.slice a n c, .float .f64 x]) := by
  by_cases hk : kd = 19
  · cases h : F (key rr) with
    | none => exact ⟨none, 0, 0, 0, false, .inr (.inl ⟨hk, h, rfl, rfl⟩), Good.zero _⟩
    | some v =>
      obtain ⟨mb, m, f, rfl, h1, h2, h3⟩ := hF _ _ h
      cases h4 : f (.string nm) with
      | none => exact ⟨none, 0, 0, 0, false, .inr (.inr ⟨hk, mb, m, f, h, h2, fun _ _ => h1, by rw [h4]; rfl, by rw [h4]; rfl⟩), Good.zero _⟩
      | some u =>
        obtain ⟨a, n, c, zs, x, rfl, hr⟩ := h3 _ _ h4
        exact ⟨a, n, c, x, true, .inr (.inr ⟨hk, mb, m, f, h, h2, fun _ _ => h1, by rw [h4]; rfl, by rw [h4]; rfl⟩), ⟨a, n, c, zs, x, rfl, hr⟩⟩
  · exact ⟨none, 0, 0, 0, false, .inl ⟨hk, rfl, rfl⟩, Good.zero _⟩
theorem two_cells {w : World} {n : Nat} {u v u2 v2 : Value} (h0 : w.cell? ⟨n, 0, none⟩ = some u2) (h1 : w.cell? ⟨n, 1, none⟩ = some v2) :
    ((w.setCell ⟨n, 0, none⟩ u).setCell ⟨n, 1, none⟩ v).cell? ⟨n, 0, none⟩ = some u ∧ ((w.setCell ⟨n, 0, none⟩ u).setCell ⟨n, 1, none⟩ v).cell? ⟨n, 1, none⟩ = some v := by
  have e0 : (⟨n, 1, none⟩ : Addr) ≠ ⟨n, 0, none⟩ := by simp
  have e1 : (⟨n, 0, none⟩ : Addr) ≠ ⟨n, 1, none⟩ := by simp
  constructor
  · rw [World.cell?_setCell_other (h := e0)]
    exact World.cell?_setCell_same _ _ _ h0
  · refine World.cell?_setCell_same _ _ _ (u := v2) ?_
    rw [World.cell?_setCell_other (h := e1)]
    exact h1
/-- behind a query's region: the value in block b1, the flag -/
def C16 (wB wA : World) (g b : Nat) (zs : List Int) (n rr kd : Nat) (a0 : Option Addr) (n0 c0 x : Nat) (ok : Bool) (tp tk : Value) (W : World) : Prop :=
  ∃ b1, tp = .pointer (some ⟨b1, 0, none⟩) ∧ tk = .bool ok ∧ St2 wB W g b zs n rr kd ∧ Turn wA W (fun _ => b) 1 ∧ W.cell? ⟨b1, 0, none⟩ = some (.slice a0 n0 c0) ∧ W.cell? ⟨b1, 1, none⟩ = some (.float .f64 x) ∧ wA.heap.size ≤ b1
/-- the law's loop: the symbol r asked for, the first answer in block b1 -/
def LR (w8 : World) (g b : Nat) (zs : List Int) (n rr kd : Nat) (a0 : Option Addr) (n0 c0 x b1 : Nat) (t21 t22 : Value) (W : World) : Prop :=
  ∃ k r : Nat, k ≤ n ∧ r < n ∧ t22 = .int .i64 (k : Int) ∧ t21 = .int .i64 (r : Int) ∧ rootS zs (n + 1 - k) r = some rr ∧ St2 w8 W g b zs n rr kd ∧ W.cell? ⟨b1, 0, none⟩ = some (.slice a0 n0 c0) ∧ W.cell? ⟨b1, 1, none⟩ = some (.float .f64 x)
section
variable {wB wA w' : World} {g b n rr kd : Nat} {zs : List Int} {a0 : Option Addr} {n0 c0 x : Nat} {ok : Bool}
theorem fin1 (hS : St2 wB w' g b zs n rr kd) (hT : Turn wA w' (fun _ => b) 1) : C16 wB wA g b zs n rr kd a0 n0 c0 x ok (.pointer (some ⟨w'.heap.size, 0, none⟩)) (.bool ok) (w'.alloc (.cells #[.slice a0 n0 c0, .float .f64 x] 46)) :=
  ⟨_, rfl, rfl, hS.kept ((Kept.refl _).alloc _), hT.alloc _, (newAt w' _ 46 0), (newAt w' _ 46 1), hT.size⟩
theorem fin2 (hS : St2 wB w' g b zs n rr kd) (hT : Turn wA w' (fun _ => b) 1) {m : Nat} (hm : wA.heap.size ≤ m) (hw : wB.heap.size ≤ wA.heap.size) (hb : b < wB.heap.size ∧ g < wB.heap.size) {u v : Value} (c0' : w'.cell? ⟨m, 0, none⟩ = some u) (c1' : w'.cell? ⟨m, 1, none⟩ = some v) :
    C16 wB wA g b zs n rr kd a0 n0 c0 x ok (.pointer (some ⟨m, 0, none⟩)) (.bool ok) ((w'.setCell ⟨m, 0, none⟩ (.slice a0 n0 c0)).setCell ⟨m, 1, none⟩ (.float .f64 x)) := by
  obtain ⟨τ, hA, hO⟩ := hS.ar
  obtain ⟨e0, e1⟩ := two_cells (u := .slice a0 n0 c0) (v := .float .f64 x) c0' c1'
  refine ⟨m, rfl, rfl, ⟨(hS.tu.setNew (by show _ ≤ m; omega) _).setNew (by show _ ≤ m; omega) _, τ, ?_, hO⟩, (hT.setNew (by show _ ≤ m; omega) _).setNew (by show _ ≤ m; omega) _, e0, e1, hm⟩
  refine (hA.far ?_ ?_ _).far ?_ ?_ _
  · show g ≠ m; omega
  · intro s hs; show b ≠ m; omega
  · show g ≠ m; omega
  · intro s hs; show b ≠ m; omega
end
set_option maxRecDepth 100000 in
set_option maxHeartbeats 16000000 in
theorem main (a0 : Option Addr) (n0 c0 : Nat) (ks : List Int) (a1 : Option Addr) (n1 c1 : Nat) (zs : List Int) (t : Int) (a3 : Option Addr) (n3 c3 : Nat) (ss : List ByteArray) (a4 : Option Addr) (n4 c4 : Nat) (xs : List Nat) (a5 : Option Addr) (n5 c5 : Nat) (vs : List Value) (i : Nat) (nm : ByteArray) (w : World)
    (h0 : Row w a0 n0 c0 (ks.map (Value.int .u8))) (h1 : Row w a1 n1 c1 (zs.map (Value.int .i32))) (h3 : Row w a3 n3 c3 (ss.map Value.string)) (h4 : Row w a4 n4 c4 (xs.map (Value.float .f64))) (h5 : Rows16 w a5 n5 vs) (hz5 : a5 = none → n5 = 0)
    (hkb : ∀ j, 0 ≤ ks.getD j 0 ∧ ks.getD j 0 ≤ 255) (hb : ∀ j, -2147483648 ≤ lk zs j ∧ lk zs j ≤ 2147483647) (ht : -2147483648 ≤ t ∧ t ≤ 2147483647) (hi : i ≤ 4294967295) (hI : Inv w)
    (m0 : n0 ≤ 9223372036854775807) (m1 : n1 ≤ 9223372036854775807) (m3 : n3 ≤ 9223372036854775807) (m4 : n4 ≤ 9223372036854775807) (m5 : n5 ≤ 9223372036854775807) :
    Calls Tryd.prog 3 #[.slice a0 n0 c0, .slice a1 n1 c1, .int .i32 t, .slice a3 n3 c3, .slice a4 n4 c4, .slice a5 n5 c5, .int .u32 (i : Int), .string nm] w (LawTrue w) := by
  have HB := Lib.hid (bytes a0 n0 c0 a1 n1 c1 t a3 n3 c3 ss a4 n4 c4 a5 n5 c5 vs (i : Int) nm w (Strs.of_row h3) h5 m0 m1 m3 m4 m5)
  have H0 := Lib.hid h0
  have H1 := Lib.hid h1
  have H3 := Lib.hid h3
  have H4 := Lib.hid h4
  have H5 := Lib.hid h5
  have HZ5 := Lib.hid hz5
  have HI := Lib.hid hI
  have HBD := Lib.hid hb
  have HKB := Lib.hid hkb
  have HTB := Lib.hid ht
  clear h0 h1 h3 h4 h5 hI hb hkb ht hz5
  go_enter Tryd.func3, Tryd.ntmps3
  go_wp2_with fail
  refine HB.out.mono ?_
  rintro e w' ⟨_ | _, rfl, hsm, rfl⟩
  · clear hsm
    go_wp2_with fail
    go_ret
    exact ⟨rfl, Below.refl _ _⟩
  have HSM := Lib.hid (hsm rfl)
  clear hsm HB
  by_cases q : 65536 < n0
  · go_wp2_with fail
    go_ret
    exact ⟨rfl, Below.refl _ _⟩
  by_cases q : 65536 < n1
  · go_wp2_with fail
    go_ret
    exact ⟨rfl, Below.refl _ _⟩
  by_cases q : 65536 < n3
  · go_wp2_with fail
    go_ret
    exact ⟨rfl, Below.refl _ _⟩
  by_cases q : 65536 < n4
  · go_wp2_with fail
    go_ret
    exact ⟨rfl, Below.refl _ _⟩
  by_cases q : 65536 < n5
  · go_wp2_with fail
    go_ret
    exact ⟨rfl, Below.refl _ _⟩
  by_cases q : 1048576 < nm.size
  · go_wp2_with fail
    go_ret
    exact ⟨rfl, Below.refl _ _⟩
  go_wp2_with fail
  refine (sbytes a3 n3 c3 ss w (Strs.of_row H3.out) HSM.out.1 (by omega)).mono ?_
  rintro e w' ⟨y3, rfl, hy3, rfl⟩
  go_wp2_with fail
  refine (ubytes a5 n5 c5 vs w H5.out HSM.out.2.1 (by omega)).mono ?_
  rintro e w' ⟨y5, rfl, hy5, rfl⟩
  by_cases q : 1048576 < (n0 : Int) + 4 * (n1 : Int) + y3 + 8 * (n4 : Int) + y5 + (nm.size : Int)
  · go_wp2_with fail
    go_ret
    exact ⟨rfl, Below.refl _ _⟩
  go_wp2_with fail
  refine (shape a0 n0 c0 a1 n1 c1 zs a3 n3 c3 a4 n4 c4 a5 n5 c5 i w (Ints.of_row H1.out) HBD.out (by omega) (by omega) (by omega) (by omega) (by omega) hi).mono ?_
  rintro e w' ⟨_ | _, rfl, hsh, rfl⟩
  · clear hsh
    go_wp2_with fail
    go_ret
    exact ⟨rfl, Below.refl _ _⟩
  obtain ⟨e1, e2, e3, hin, hl, rr, hrr⟩ := hsh rfl
  replace e1 := e1.symm
  replace e2 := e2.symm
  replace e3 := e3.symm
  subst e1
  subst e2
  subst e3
  have HL := Lib.hid hl
  have HRR := Lib.hid hrr
  have hrn := (root_lnk hl _ _ _ hin hrr).1
  have HSM1 := Lib.hid HSM.out.1
  have HSM2 := Lib.hid HSM.out.2.1
  have HNM := Lib.hid HSM.out.2.2
  clear hsh hl hrr HSM hy3 hy5
  go_wp2_with fail
  refine (cloneU8.run a0 n0 c0 ks w H0.out (by omega)).mono ?_
  rintro e w1 ⟨p0, rfl, o0, _, k1⟩
  have R0 := Lib.hid (Ints.of_row (Row.of_own o0))
  have K1 := Lib.hid k1
  have C1 := Lib.hid (cloneI32.run a1 n0 c1 zs w1 (H1.out.kept k1) (by omega))
  clear o0 k1 H0
  go_wp2_with fail
  refine C1.out.mono ?_
  rintro e w2 ⟨p1, rfl, o1, _, k2⟩
  have R1 := Lib.hid (Ints.of_row (Row.of_own o1))
  have K2 := Lib.hid (K1.out.trans k2)
  have R0' := Lib.hid (R0.out.kept k2)
  have C2 := Lib.hid (cloneS.run a3 n3 c3 ss w2 (H3.out.kept K2.out) (by omega))
  clear o1 k2 H1 C1 R0 K1
  go_wp2_with fail
  refine C2.out.mono ?_
  rintro e w3 ⟨p3, rfl, o2, _, k3⟩
  have R3 := Lib.hid (Strs.of_row (Row.of_own o2))
  have K3 := Lib.hid (K2.out.trans k3)
  have R0 := Lib.hid (R0'.out.kept k3)
  have R1' := Lib.hid (R1.out.kept k3)
  have C3 := Lib.hid (cloneF.run a4 n3 c4 xs w3 (H4.out.kept K3.out) (by omega))
  clear o2 k3 H3 C2 R0' R1 K2
  go_wp2_with fail
  refine C3.out.mono ?_
  rintro e w4 ⟨p4, rfl, o3, _, k4⟩
  have R4 := Lib.hid (Flos.of_row (Row.of_own o3))
  have K4 := Lib.hid (K3.out.trans k4)
  have R0' := Lib.hid (R0.out.kept k4)
  have R1 := Lib.hid (R1'.out.kept k4)
  have R3' := Lib.hid (R3.out.kept k4)
  have C4 := Lib.hid (cloneUs a5 n3 c5 vs w4 (H5.out.kept K4.out) HSM2.out HZ5.out (by omega))
  clear o3 k4 H4 C3 R0 R1' R3 K3
  go_wp2_with fail
  refine C4.out.mono ?_
  rintro e w5 ⟨p5, us, rfl, o4, k5⟩
  have Q5 := Lib.hid o4
  have KS := Lib.hid (K4.out.trans k5)
  have Q0 := Lib.hid (R0'.out.kept k5)
  have Q1 := Lib.hid (R1.out.kept k5)
  have Q3 := Lib.hid (R3'.out.kept k5)
  have Q4 := Lib.hid (R4.out.kept k5)
  clear o4 k5 H5 C4 R0' R1 R3' R4 K4 HSM2 HZ5
  go_wp2_with fail
  refine (build p1 p0 n0 n0 n0 zs ks w5 Q1.out Q0.out HKB.out HL.out (by omega)).mono ?_
  rintro e w6 ⟨g, b, rfl, hg, hbb, hA, k6⟩
  have HA6 := Lib.hid hA
  have K6 := Lib.hid k6
  have hb6 : b < w6.heap.size := hA.lt (s := 0) (by omega)
  clear hA k6
  unfold mapV
  go_upto_region 15 with fail
  have B7 : Hid (Blk (w6.alloc (.cells #[.slice (some ⟨g, 0, none⟩) 1 1] 39)) w6.heap.size 39 [.slice (some ⟨g, 0, none⟩) 1 1]) := Lib.hid (Blk.new w6 39 _)
  have kk7 := (Kept.refl w6).alloc (.cells #[.slice (some ⟨g, 0, none⟩) 1 1] 39)
  have hs7 : (w6.alloc (.cells #[.slice (some ⟨g, 0, none⟩) 1 1] 39)).heap.size = w6.heap.size + 1 := by simp
  have K7 := Lib.hid (K6.out.trans kk7)
  have HA7 := Lib.hid (HA6.out.kept kk7)
  have HS7 := Lib.hid hs7
  clear kk7 HA6 K6 hs7
  generalize w6.alloc (.cells #[.slice (some ⟨g, 0, none⟩) 1 1] 39) = w7 at *
  go_wp2_with fail
  refine (enums t p3 p4 p5 n3 n3 n3 n3 ss xs us w5 w7 K7.out HTB.out (Q3.out.kept K7.out) HSM1.out (Q4.out.kept K7.out) Q5.out (by omega)).mono ?_
  rintro e w8 ⟨F, rfl, hm, k8, hF⟩
  have HFF := Lib.hid hF
  have HMM := Lib.hid hm
  have K8 := Lib.hid (K7.out.trans k8)
  have HA8 := Lib.hid (HA7.out.kept k8)
  have x0 : w8.cell? ⟨w6.heap.size, 0, none⟩ = some (.slice (some ⟨g, 0, none⟩) 1 1) := (B7.out.kept k8).cell 0
  have hpos := inv_pos HI.out
  have hkS := KS.out.size
  have hI8 : Inv w8 := HI.out.kept (KS.out.trans K8.out)
  clear hm k8 B7 HA7 hF
  obtain ⟨xa, xn, xc, xx, ok, hans, hgood⟩ := ans_of (w := w8) (wS := w5) (b := b) (rr := rr) (kd := (symAt (tab zs ks n0) (0, rr)).kind) (F := F) (nm := nm) (fun x v h => by
    obtain ⟨mb, m, f, e, h1, h2, h3⟩ := HFF.out x v h
    exact ⟨mb, m, f, e, by have := HS7.out; omega, h2, h3⟩)
  have HBASE : Hid (Base w8 w7.heap.size g b rr (symAt (tab zs ks n0) (0, rr)).kind F nm (.agg #[.slice xa xn xc, .float .f64 xx]) ok) := Lib.hid ⟨hI8, by omega, HMM.out, by have := HS7.out; omega, hans, by omega, HNM.out⟩
  have HST : Hid (St2 w8 w8 g b zs n0 rr (symAt (tab zs ks n0) (0, rr)).kind) := Lib.hid ⟨Turn.refl _ _ _, _, HA8.out, fun j hj k hk => (root_chain ks HL.out k j rr hj hk).2, rfl⟩
  have HGOOD := Lib.hid hgood
  have HX0 := Lib.hid x0
  have HBS := Lib.hid (show w5.heap.size ≤ b from hbb)
  have HB8 : Hid (b < w8.heap.size ∧ b ≠ w6.heap.size) := Lib.hid ⟨HA8.out.lt (s := 0) (by omega), by omega⟩
  have HK58 := Lib.hid K8.out
  have HBG : Hid (b < w8.heap.size ∧ g < w8.heap.size) := Lib.hid ⟨HA8.out.lt (s := 0) (by omega), HA8.out.outer.lt⟩
  clear hans hgood HFF HMM HI HBD HKB HTB HSM1 HNM K8 HA8 Q0 Q3 Q4 Q5 hI8
  generalize (symAt (tab zs ks n0) (0, rr)).kind = kd at *
  generalize w6.heap.size = bx at *
  have hxl := World.block_lt_of_cell? w8 _ x0
  clear x0 hxl hb6 hbb hg hpos hkS
  obtain ⟨bl, ol, rfl, hbl, hcl⟩ := Q1.out.2 (by omega)
  have HLC := Lib.hid hcl
  have HK5 := Lib.hid (fun (W : World) (h : St2 w8 W g b zs n0 rr kd) => (show Kept w5 W from Below.trans HK58.out (h.tu.below (B := w5.heap.size) (fun s _ => HBS.out) HK58.out.size)))
  have HSV := Lib.hid (fun (W : World) (k : Kept w5 W) => sameV _ W (HGOOD.out.kept k))
  have hok : (ok != ok) = false := by simp
  have hok2 : (ok == ok) = true := by simp
  clear hcl Q1
  have hsf : ∀ (W : World) (a : Addr) (b : Nat), (store a (.float .f64 b)).run Tryd.prog W = stored Tryd.prog W a (.float .f64 b) .plain := fun W a b => run_store Tryd.prog W a _ .plain rfl
  have hszA : b < w8.heap.size := Nat.lt_of_lt_of_le HBG.out.1 HST.out.tu.size
  have x0A := turn_cellB HST.out.tu HX0.out HB8.out.2
  have hxl := World.block_lt_of_cell? w8 _ x0A
  have hnx := World.new_ne w8 ⟨bx, 0, none⟩ x0A
  have HQ := Lib.hid (fun W hW n6 n7 h6 h7 => queryR HBASE.out HST.out HX0.out HB8.out.2 i hin _ HRR.out W hW n6 n7 h6 h7)
  have HZ := Lib.hid (fun W hW n6 => zrefR HST.out HX0.out HB8.out.2 hszA i W hW n6)
  have HNB : Hid (b ≠ w8.heap.size) := Lib.hid (by omega)
  go_upto_region 16 with fail
  go_cut [19, 20] (fun ta tb W => Hid (C16 w8 w8 g b zs n0 rr kd xa xn xc xx ok ta tb W))
  case first =>
    go_region_held3 (fun W => W.cell? ⟨bx, 0, none⟩ = some (.slice (some ⟨g, 0, none⟩) 1 1)) (first | go_keep)
      (first
        | (go_at_call 16; refine (HZ.out _ ?_ w8.heap.size).mono ?_; (repeat (first | exact Kept.refl _ | apply Kept.drew | apply Kept.alloc)); rintro e wq ⟨rfl, t0, u0, u1, kq, hnq⟩; have hnq2 := World.new_ne wq ⟨bx, 0, none⟩ t0; (try simp at u0); (try simp at u1))
        | (go_at_call 15; refine (HQ.out _ ?_ w8.heap.size wq.heap.size HNB.out hnq.out).mono ?_; (repeat (first | exact kq.out | apply Kept.drew | apply Kept.alloc)); rintro e w' ⟨rfl, t1, u2, u3, u4, u5, hS, hT⟩; (try simp [u0] at u2); (try simp [u1] at u3); (try simp at u4); (try simp at u5)))
    all_goals
      go_wp2_with fail
      first
      | have HC := Lib.hid (fin2 (a0 := xa) (n0 := xn) (c0 := xc) (x := xx) (ok := ok) hS.out hT.out (m := w8.heap.size) (Nat.le_refl _) HST.out.tu.size HBG.out u2.1 u3.1)
        go_meet
        exact HC
      | have HC := Lib.hid (fin2 (a0 := xa) (n0 := xn) (c0 := xc) (x := xx) (ok := ok) hS.out hT.out (m := wq.heap.size) kq.out.size HST.out.tu.size HBG.out u4.1 u5.1)
        go_meet
        exact HC
      | have HC := Lib.hid (fin1 (a0 := xa) (n0 := xn) (c0 := xc) (x := xx) (ok := ok) hS.out hT.out)
        go_meet
        exact HC
  case rest =>
    obtain ⟨b1, rfl, rfl, hS9, hT9, e0, e1, hb1⟩ := hcut.out
    have HL0 : Hid (LR w8 g b zs n0 rr kd xa xn xc xx b1 (.int .i64 (i : Int)) (.int .i64 0) wc) := Lib.hid ⟨0, i, by omega, hin, rfl, rfl, HRR.out, hS9, e0, e1⟩
    have HB1 : Hid (b ≠ b1) := Lib.hid (by have := HBG.out.1; omega)
    clear hcut HQ HZ HNB hnx x0A hxl hS9 hT9 e0 e1 hszA
    go_wp2_with fail
    go_loopw [21, 22] (fun t21 t22 W => LR w8 g b zs n0 rr kd xa xn xc xx b1 t21 t22 W) (fun _ t22 _ => n0 + 1 - (intOf t22).toNat)
    case atStart => exact HL0.out
    case round =>
      obtain ⟨k, r, hk, hr, rfl, rfl, hroot, hSr, f0, f1⟩ := hrel
      have HSR := Lib.hid hSr
      have HROOT := Lib.hid hroot
      have HF0 := Lib.hid f0
      have HF1 := Lib.hid f1
      have hki : (k : Int) ≤ (n0 : Int) := by omega
      have hri : (r : Int) < (n0 : Int) := by omega
      have W32 : IntKind.u32.wrap (r : Int) = (r : Int) := by rw [IntKind.wrap_u32]; omega
      clear hroot hSr f0 f1 HL0
      have hszA : b < wr.heap.size := Nat.lt_of_lt_of_le HBG.out.1 HSR.out.tu.size
      have x0A := turn_cellB HSR.out.tu HX0.out HB8.out.2
      have hxl := World.block_lt_of_cell? wr _ x0A
      have hnx := World.new_ne wr ⟨bx, 0, none⟩ x0A
      have HQ := Lib.hid (fun W hW n6 n7 h6 h7 => queryR HBASE.out HSR.out HX0.out HB8.out.2 r hr _ HROOT.out W hW n6 n7 h6 h7)
      have HZ := Lib.hid (fun W hW n6 => zrefR HSR.out HX0.out HB8.out.2 hszA r W hW n6)
      have HNB : Hid (b ≠ wr.heap.size) := Lib.hid (by omega)
      go_upto_region 21 with fail
      go_cut [23, 24] (fun ta tb W => Hid (C16 w8 wr g b zs n0 rr kd xa xn xc xx ok ta tb W))
      case first =>
        go_region_held3 (fun W => W.cell? ⟨bx, 0, none⟩ = some (.slice (some ⟨g, 0, none⟩) 1 1)) (first | go_keep)
          (first
            | (go_at_call 16; refine (HZ.out _ ?_ wr.heap.size).mono ?_; (repeat (first | exact Kept.refl _ | apply Kept.drew | apply Kept.alloc)); rintro e wq ⟨rfl, t0, u0, u1, kq, hnq⟩; have hnq2 := World.new_ne wq ⟨bx, 0, none⟩ t0; (try simp at u0); (try simp at u1))
            | (go_at_call 15; refine (HQ.out _ ?_ wr.heap.size wq.heap.size HNB.out hnq.out).mono ?_; (repeat (first | exact kq.out | apply Kept.drew | apply Kept.alloc)); rintro e w' ⟨rfl, t1, u2, u3, u4, u5, hS, hT⟩; (try simp [u0] at u2); (try simp [u1] at u3); (try simp at u4); (try simp at u5)))
        all_goals
          go_wp2_with fail
          first
          | have HC := Lib.hid (fin2 (a0 := xa) (n0 := xn) (c0 := xc) (x := xx) (ok := ok) hS.out hT.out (m := wr.heap.size) (Nat.le_refl _) HSR.out.tu.size HBG.out u2.1 u3.1)
            go_meet
            exact HC
          | have HC := Lib.hid (fin2 (a0 := xa) (n0 := xn) (c0 := xc) (x := xx) (ok := ok) hS.out hT.out (m := wq.heap.size) kq.out.size HSR.out.tu.size HBG.out u4.1 u5.1)
            go_meet
            exact HC
          | have HC := Lib.hid (fin1 (a0 := xa) (n0 := xn) (c0 := xc) (x := xx) (ok := ok) hS.out hT.out)
            go_meet
            exact HC
      case rest =>
        obtain ⟨b2, rfl, rfl, hS9, hT9, e0, e1, hb2⟩ := hcut.out
        have HS9 := Lib.hid hS9
        have f0 := turn_cellB hT9 HF0.out HB1.out
        have f1 := turn_cellB hT9 HF1.out HB1.out
        have HF9 := Lib.hid (And.intro f0 f1)
        have HC := Lib.hid (HSV.out wc (HK5.out wc hS9))
        clear hcut HQ HZ HNB hnx x0A hxl hszA hS9 hT9 HF0 HF1 HSR
        go_wp2_with fail
        refine HC.out.mono ?_
        rintro e w10 ⟨rfl, k10⟩
        have HS10 := Lib.hid (HS9.out.kept k10)
        have HF10 := Lib.hid (And.intro (k10.cell HF9.out.1) (k10.cell HF9.out.2))
        have l0 : w10.cell? ⟨bl, ol + r, none⟩ = some (.int .i32 (lk zs r)) := (HK5.out w10 HS10.out).cell (HLC.out r hr)
        have HSTEP : Hid (rootS zs (n0 + 1 - k) r = if lk zs r = -1 then some r else rootS zs (n0 + 1 - (k + 1)) (lk zs r).toNat) := Lib.hid (by rw [show n0 + 1 - k = (n0 + 1 - (k + 1)) + 1 by omega]; rfl)
        have hlr := HL.out.2 r hr
        clear k10 HC HS9 HF9 e0 e1 f0 f1
        by_cases hz : lk zs r = -1
        · rw [hz] at l0
          have e1 : ((-1 : Int) == -1) = true := rfl
          clear hlr HSTEP hz
          have hszA : b < w10.heap.size := Nat.lt_of_lt_of_le HBG.out.1 HS10.out.tu.size
          have x0A := turn_cellB HS10.out.tu HX0.out HB8.out.2
          have hxl := World.block_lt_of_cell? w10 _ x0A
          have hnx := World.new_ne w10 ⟨bx, 0, none⟩ x0A
          have HQ := Lib.hid (fun W hW n6 n7 h6 h7 => queryR HBASE.out HS10.out HX0.out HB8.out.2 i hin _ HRR.out W hW n6 n7 h6 h7)
          have HZ := Lib.hid (fun W hW n6 => zrefR HS10.out HX0.out HB8.out.2 hszA i W hW n6)
          have HNB : Hid (b ≠ w10.heap.size) := Lib.hid (by omega)
          go_upto_region 26 with fail
          go_cut [25, 26] (fun ta tb W => Hid (C16 w8 w10 g b zs n0 rr kd xa xn xc xx ok ta tb W))
          case first =>
            go_region_held3 (fun W => W.cell? ⟨bx, 0, none⟩ = some (.slice (some ⟨g, 0, none⟩) 1 1)) (first | go_keep)
              (first
                | (go_at_call 16; refine (HZ.out _ ?_ w10.heap.size).mono ?_; (repeat (first | exact Kept.refl _ | apply Kept.drew | apply Kept.alloc)); rintro e wq ⟨rfl, t0, u0, u1, kq, hnq⟩; have hnq2 := World.new_ne wq ⟨bx, 0, none⟩ t0; (try simp at u0); (try simp at u1))
                | (go_at_call 15; refine (HQ.out _ ?_ w10.heap.size wq.heap.size HNB.out hnq.out).mono ?_; (repeat (first | exact kq.out | apply Kept.drew | apply Kept.alloc)); rintro e w' ⟨rfl, t1, u2, u3, u4, u5, hS, hT⟩; (try simp [u0] at u2); (try simp [u1] at u3); (try simp at u4); (try simp at u5)))
            all_goals
              go_wp2_with fail
              first
              | have HC := Lib.hid (fin2 (a0 := xa) (n0 := xn) (c0 := xc) (x := xx) (ok := ok) hS.out hT.out (m := w10.heap.size) (Nat.le_refl _) HS10.out.tu.size HBG.out u2.1 u3.1)
                go_meet
                exact HC
              | have HC := Lib.hid (fin2 (a0 := xa) (n0 := xn) (c0 := xc) (x := xx) (ok := ok) hS.out hT.out (m := wq.heap.size) kq.out.size HS10.out.tu.size HBG.out u4.1 u5.1)
                go_meet
                exact HC
              | have HC := Lib.hid (fin1 (a0 := xa) (n0 := xn) (c0 := xc) (x := xx) (ok := ok) hS.out hT.out)
                go_meet
                exact HC
          case rest =>
            obtain ⟨b3, rfl, rfl, hS9, hT9, e2, e3, hb3⟩ := hcut.out
            have HS11 := Lib.hid hS9
            have f0 := turn_cellB hT9 HF10.out.1 HB1.out
            have f1 := turn_cellB hT9 HF10.out.2 HB1.out
            have HC := Lib.hid (HSV.out wc (HK5.out wc hS9))
            clear hcut HQ HZ HNB hnx x0A hxl hszA hS9 hT9 HF10 HS10 l0
            go_wp2_with fail
            refine HC.out.mono ?_
            rintro e w12 ⟨rfl, k12⟩
            have HS12 := Lib.hid (HS11.out.kept k12)
            clear k12 HC HS11 e2 e3 f0 f1
            go_wp2_with fail
            go_ret
            exact ⟨by simp, KS.out.trans (HK5.out w12 HS12.out)⟩
        · have h2 := hlr.resolve_left hz
          have HRN := HROOT.out.symm.trans (HSTEP.out.trans (if_neg hz))
          obtain ⟨j, hj⟩ := Int.eq_ofNat_of_zero_le h2.1
          rw [hj] at l0 h2 hz HRN
          rw [Int.toNat_natCast] at HRN
          have hk1 : k + 1 ≤ n0 := by
            apply Classical.byContradiction
            intro hc
            rw [show n0 + 1 - (k + 1) = 0 by omega] at HRN
            cases HRN
          have HRR2 : Hid (LR w8 g b zs n0 rr kd xa xn xc xx b1 (.int .i64 (j : Int)) (.int .i64 ((k : Int) + 1)) w10) := Lib.hid ⟨k + 1, j, hk1, by omega, by go_num, rfl, HRN.symm, HS10.out, HF10.out.1, HF10.out.2⟩
          have e1 : ((j : Int) == -1) = false := by simp
          clear hlr HSTEP HRN hj hz HS10 HF10
          go_wp2_with fail
          go_roundw
          case rel => first | exact HRR2.out | ((repeat apply Exists.intro); exact ⟨HRR2.out, rfl⟩)
          case measure => simp [intOf]; omega
end Go.Proofs.YtcndjkndmmcagaaDoor.mp
