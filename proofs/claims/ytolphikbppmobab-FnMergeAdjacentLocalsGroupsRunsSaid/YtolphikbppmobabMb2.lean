/-
  The walk of zzBuildMergeInput over this seat's program.
  Conditions: the three slices read as lists of equal length; the numbers' sum is at most 65536.
-/
import Derived.Test.YtolphikbppmobabMb
import Derived.Deep.RegionWith
import Derived.IntWalk
namespace Go.Proofs.Ytolphikbppmobab.mj
open Go.ChangeShapes Go.WideShapes Go.ChangeAt Go.RowKit
open kit

theorem _root_.Go.Proofs.Ytolphikbppmobab.kit.Kept.drewl {a b : World} (h : Kept a.drew b) : Kept a b := (Kept.refl a).drew.trans h
theorem isStL {w : World} {g b : Nat} {cs : List Value} {ks : List Nat} {xs : List Bool} {ds : List Nat} {i : Nat} (h8 : ks.getD i 0 < 8) (h1 : Blk w g 49 [.slice (some ⟨b, 0, none⟩) (ds.getD i 0) (ds.getD i 0), .int .u8 (ks.getD i 0 : Int), .bool (xs.getD i false), .bool false])
    (h2 : Blk w b 61 cs) (h3 : Dl w cs ((List.range (ds.getD i 0)).map (fst ks ds i + ·))) : IsSt 0 w (PL g) (ks.getD i 0) (xs.getD i false) ((List.range (ds.getD i 0)).map (fst ks ds i + ·)) :=
  ⟨fun h => by omega, fun _ => ⟨g, b, cs, Nat.zero_le _, Nat.zero_le _, rfl, by simpa using h1, h2, h3⟩⟩
theorem far2 {w : World} {R b o i j : Nat} {u v x : Value} (h : w.cell? ⟨b, o, none⟩ = some x) (hb : b ≠ R) : ((w.setCell ⟨R, i, none⟩ u).setCell ⟨R, j, none⟩ v).cell? ⟨b, o, none⟩ = some x := by
  have ne : ∀ k : Nat, (⟨R, k, none⟩ : Addr) ≠ ⟨b, o, none⟩ := fun k e => by injection e with e1; exact hb e1.symm
  rw [World.cell?_setCell_other _ _ _ _ (ne j), World.cell?_setCell_other _ _ _ _ (ne i)]
  exact h
theorem getN {l : List Nat} {i : Nat} (h : i < l.length) : l.getD i 0 = l[i] := by rw [List.getD_eq_getElem?_getD, List.getElem?_eq_getElem h]; rfl
theorem getB {l : List Bool} {i : Nat} (h : i < l.length) : l.getD i false = l[i] := by rw [List.getD_eq_getElem?_getD, List.getElem?_eq_getElem h]; rfl

set_option maxRecDepth 100000 in
set_option maxHeartbeats 4000000 in
theorem build (a0 a1 a2 : Option Addr) (n c0 c1 c2 : Nat) (ks : List Nat) (xs : List Bool) (ds : List Nat) (w : World)
    (h0 : Row w a0 n c0 (ks.map fun (d : Nat) => Value.int .u8 (d : Int))) (h1 : Row w a1 n c1 (xs.map Value.bool)) (h2 : Row w a2 n c2 (ds.map fun (d : Nat) => Value.int .u8 (d : Int)))
    (hk : ∀ d ∈ ks, d ≤ 255) (hd : ∀ d ∈ ds, d ≤ 255) (hn : n ≤ 65536) (hs : ds.sum ≤ 65536) :
    Calls Try.prog 8 #[.slice a0 n c0, .slice a1 n c1, .slice a2 n c2] w fun e w' => e = .returned (.slice (some ⟨w.heap.size, 0, none⟩) n n) ∧ Sts 0 w' w.heap.size n ks xs ds n ∧ Kept w w' := by
  obtain ⟨C, hC, _, hmk⟩ := makeN (T := 27) (E := 36) (size := 2) (bytes := 24) Try.underlying27 (by kernel_rfl) n (by omega) (by omega)
  have H0 := Lib.hid h0
  have H1 := Lib.hid h1
  have H2 := Lib.hid h2
  have HK := Lib.hid hk
  have HD := Lib.hid hd
  have HS := Lib.hid hs
  clear h0 h1 h2 hk hd hs
  go_enter Try.func8, Try.ntmps8
  go_wp2_with fail
  have HI : Hid (Cb w w.heap.size n ks xs ds (.int .u32 0) (.int .i64 0) (w.alloc (.cells C.toArray 36))) := Lib.hid ⟨0, Nat.zero_le _, rfl, rfl, (Kept.refl _).alloc _, C, Blk.new _ _ _, hC, fun j h => by omega⟩
  clear hmk hC
  generalize w.alloc (.cells C.toArray 36) = wa at *
  go_loopw [8, 9] (fun t8 t9 W => Cb w w.heap.size n ks xs ds t8 t9 W) (fun _ t9 _ => n - (intOf t9).toNat)
  case atStart => exact HI.out
  case round =>
    obtain ⟨i, hi, rfl, rfl, HKe, HSt⟩ := hrel
    have HKe := Lib.hid HKe
    have HSt := Lib.hid HSt
    clear HI
    by_cases hin : i < n
    · have hki : i < ks.length := by have := H0.out.1; rw [List.length_map] at this; omega
      have hxi : i < xs.length := by have := H1.out.1; rw [List.length_map] at this; omega
      have hdi : i < ds.length := by have := H2.out.1; rw [List.length_map] at this; omega
      obtain ⟨b0, o0, rfl, hb0, hc0⟩ := H0.out.2.2.2.2 (by omega)
      obtain ⟨b1, o1, rfl, hb1, hc1⟩ := H1.out.2.2.2.2 (by omega)
      obtain ⟨b2, o2, rfl, hb2, hc2⟩ := H2.out.2.2.2.2 (by omega)
      have e0 := hc0 i (by simpa using hki)
      have e1 := hc1 i (by simpa using hxi)
      have e2 := hc2 i (by simpa using hdi)
      rw [List.getElem_map] at e0 e1 e2
      have f0 := HKe.out.cell e0
      have f1 := HKe.out.cell e1
      have f2 := HKe.out.cell e2
      have NB := Lib.hid (show b2 ≠ w.heap.size by omega)
      clear hc0 hc1 hc2 e0 e1 e2 hb0 hb1 hb2
      by_cases h8 : ks[i] < 8
      · have hfl : fst ks ds i ≤ 1048576 := by
          have h1 := fst_le ks ds i
          have e : (ds.take i).sum ≤ ds.sum := by
            have := congrArg List.sum (List.take_append_drop i ds)
            rw [List.sum_append] at this
            omega
          have := HS.out
          omega
        have HC := Lib.hid (localStmt (i : Int) (ks[i] : Int) xs[i] (fst ks ds i) ds[i] (HD.out _ (List.getElem_mem hdi)) hfl wr.drew)
        have W1 := Lib.hid (show IntKind.i32.wrap (i : Int) = i by exact IntWalk.i32_in _ (by omega))
        have W2 := Lib.hid (show IntKind.i64.wrap (ds[i] : Int) = ds[i] by exact IntWalk.i64_in _ (by have := HD.out _ (List.getElem_mem hdi); omega))
        have HFL := Lib.hid hfl
        clear hfl
        go_wp2_with fail
        go_region_with (go_at_call 14; rw [W1.out, W2.out]; refine (HC.out).mono ?_; rintro e w2 ⟨g, b, cs, rfl, q1, q2, q3, q4⟩; obtain ⟨rc, y1, y2, _⟩ := HSt.out; have qb := y1.drew.kept q4; have p0 := qb.cellD (i := i * 2) (by omega); have p1 := qb.cellD (i := i * 2 + 1) (by omega); generalize rc[i * 2] = u0 at p0; generalize rc[i * 2 + 1] = u1 at p1; have z0 := qb.free (i * 2); have z1 := qb.free (i * 2 + 1); have Q1 := Lib.hid q1; have Q2 := Lib.hid q2; have Q3 := Lib.hid q3; have Q4 := Lib.hid q4; clear q1 q2 q3 q4 qb y1 y2; unfold PL)
        all_goals
          have HN := Lib.hid (HSt.out.step (Q4.out.drewl) hin (PL g) (isStL (by rw [getN hki]; exact h8) (by rw [getN hki, getB hxi, getN hdi]; exact Q1.out) Q2.out (by rw [getN hdi]; exact Q3.out)))
          have HK2 := Lib.hid (((HKe.out.trans Q4.out.drewl).setCell (p := ⟨w.heap.size, i * 2, none⟩) (Nat.le_refl _) (PL g)).setCell (p := ⟨w.heap.size, i * 2 + 1, none⟩) (Nat.le_refl _) (.int .i32 (i : Int)))
          have HF : Hid (fst ks ds (i + 1) = fst ks ds i + ds[i]) := Lib.hid (by show fst ks ds i + (if ks.getD i 0 < 8 then ds.getD i 0 else 0) = _; rw [getN hki, if_pos h8, getN hdi])
          have hd255 : ds[i] ≤ 255 := HD.out _ (List.getElem_mem hdi)
          have hfl2 : fst ks ds i ≤ 1048576 := HFL.out
          have f2 := (Q4.out.drewl).cell f2
          have f2 := far2 (R := w.heap.size) (i := i * 2) (j := i * 2 + 1) (u := .iface 44 (.pointer (some ⟨g, 0, none⟩))) (v := .int .i32 (i : Int)) f2 NB.out
          clear Q1 Q2 Q3 Q4 p0 p1 z0 z1 W1 W2 HC
          go_wp2_with fail
          go_roundw
          case rel => exact ⟨i + 1, by omega, by go_num, by rw [HF.out]; go_num, HK2.out, HN.out⟩
          case measure => simp [intOf]; omega
      · have hg8 : ks.getD i 0 = ks[i] := by rw [List.getD_eq_getElem?_getD, List.getElem?_eq_getElem hki]; rfl
        have HG8 := Lib.hid hg8
        clear hg8
        go_wp2_with fail
        refine (exprStmt (i : Int) wr).mono ?_
        rintro e w2 ⟨g, rfl, hbg, hgs, hk2⟩
        have hst : IsSt 0 w2 (PX g) (ks.getD i 0) (xs.getD i false) ((List.range (ds.getD i 0)).map (fst ks ds i + ·)) :=
          ⟨fun _ => ⟨g, Nat.zero_le _, rfl, hbg⟩, fun h => absurd h (by rw [HG8.out]; exact h8)⟩
        have HN := Lib.hid (HSt.out.step hk2 hin (PX g) hst)
        obtain ⟨rc, q1, q2, _⟩ := HSt.out
        have qb := q1.kept hk2
        have p0 := qb.cellD (i := i * 2) (by omega)
        have p1 := qb.cellD (i := i * 2 + 1) (by omega)
        generalize rc[i * 2] = u0 at p0
        generalize rc[i * 2 + 1] = u1 at p1
        have z0 := qb.free (i * 2)
        have z1 := qb.free (i * 2 + 1)
        have HK2 := Lib.hid (((HKe.out.trans hk2).setCell (p := ⟨w.heap.size, i * 2, none⟩) (Nat.le_refl _) (PX g)).setCell (p := ⟨w.heap.size, i * 2 + 1, none⟩) (Nat.le_refl _) (.int .i32 (i : Int)))
        clear hst q1 q2 qb hk2 hbg hgs
        unfold PX
        go_wp2_with fail
        have HF : Hid (fst ks ds (i + 1) = fst ks ds i) := Lib.hid (by show fst ks ds i + (if ks.getD i 0 < 8 then ds.getD i 0 else 0) = _; rw [HG8.out, if_neg h8, Nat.add_zero])
        go_roundw
        case rel => exact ⟨i + 1, by omega, by go_num, by rw [HF.out], HK2.out, HN.out⟩
        case measure => simp [intOf]; omega
    · obtain rfl : i = n := by omega
      go_wp2_with fail
      go_ret
      exact ⟨rfl, HSt.out, HKe.out⟩
end Go.Proofs.Ytolphikbppmobab.mj
