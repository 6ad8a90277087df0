/-
  The walk of FnCCIALessSortsByChunkIndex: For any list of up to 1,024 chunk indices, an insertion sort driven only by Less and Swap leaves the indices in the same ascending order that an independent selection sort of the list gives.
  Conditions: none beyond those of the given statement Rows.FnCCIALessSortsByChunkIndexSaid.
-/
import Derived.Test.YtmpiepanajhfdaaRows
import Derived.WalkKit
import Derived.ProofKit
import Derived.OpenShut
import Derived.ShutString
import Derived.ChangeOld
import Derived.Below
import Derived.Test.YtmpiepanajhfdaaCcia2
import Derived.Laws.CopyOwn
import Derived.Deep.OwnRows
import Derived.Lib.LazyBuf
import Derived.Deep.RegionHeld3
import Derived.Deep.QuietTactic
import Derived.BigQuiet
namespace Go.Proofs.Ytmpiepanajhfdaa.fnCCIALessSortsByChunkIndex
open Go.ChangeShapes Go.WideShapes Go.ChangeAt Go.RowKit
open Go.ChangeMaps (open_string shut_string)
set_option linter.unusedVariables false


/-- WHAT THE WALK IS TOLD OF A SLICE OF INTEGERS THAT CAME IN: it is nil; or it leads to a row of 'cap' cells, the numbers 'zs' (the first 'len' are its elements, the rest its spare room), each fitting its kind. -/
def IsRow (k : IntKind) (w : World) (a : Option Addr) (len cap : Nat) (zs : List Int) : Prop :=
  (a = none ∧ len = 0 ∧ cap = 0 ∧ zs = []) ∨
  ∃ x, a = some x ∧ len ≤ cap ∧ cap ≤ maxLen ∧ zs.length = cap ∧ (∀ i, i < zs.length → w.cell? (x.add i) = some (.int k (zs.getD i 0))) ∧ ∀ n ∈ zs, (Lit.int k n).wf = true

open kit ccia sorts
theorem info42 : (Try.prog.info? 42).map (fun i => (i.zero, i.size, i.bytes)) = some (some (.int .u32 0), 1, 4) := by kernel_rfl
theorem size1 : (Try.prog.info? 42).map (·.size) = some 1 := by kernel_rfl
def Want (w : World) (g : Nat) (zs : List Int) : Prop := Blk w g 42 (zs.map (Value.int .u32))
theorem Want.at {w : World} {g : Nat} {zs : List Int} (h : Want w g zs) {k : Nat} (hk : k < zs.length) : w.cell? ⟨g, k, none⟩ = some (.int .u32 (zs.getD k 0)) := by
  rw [Blk.cell h, List.getElem?_map]; simp [hk]
theorem Want.free {w : World} {g : Nat} {zs : List Int} (h : Want w g zs) (k : Nat) : w.frozen? ⟨g, k, none⟩ = false := Blk.free h k
theorem Want.kept {w w2 : World} {g : Nat} {zs : List Int} (h : Want w g zs) (hk : Kept w w2) : Want w2 g zs := Blk.kept h hk
theorem Want.swp {w : World} {g : Nat} {zs : List Int} (h : Want w g zs) (p m : Nat) (x y : Int) (hx : zs.getD m 0 = x) (hy : zs.getD p 0 = y) : Want ((w.setCell ⟨g, p, none⟩ (.int .u32 x)).setCell ⟨g, m, none⟩ (.int .u32 y)) g (swp zs p m) := by
  have := (Blk.set h p (.int .u32 x)).set m (.int .u32 y)
  unfold Want sorts.swp
  rw [hx, hy, List.map_set, List.map_set]
  exact this
/-- at the head of the insertion sort's outer loop -/
def I1 (w : World) (g n : Nat) (xs : List Int) (rest : List Value) (t : Value) (wr : World) : Prop :=
  ∃ (i : Nat) (ys : List Int), 1 ≤ i ∧ i ≤ n ∧ t = .int .i64 (i : Int) ∧ InsOuter xs ys i ∧ ys.length = n ∧ Blk wr g 50 (cellsOf ys ++ rest) ∧ Below w.heap.size w wr
def I2 (w : World) (g n i : Nat) (xs : List Int) (rest : List Value) (t : Value) (wr : World) : Prop :=
  ∃ (j : Nat) (ys : List Int), t = .int .i64 (j : Int) ∧ InsInner xs ys i j ∧ ys.length = n ∧ Blk wr g 50 (cellsOf ys ++ rest) ∧ Below w.heap.size w wr
def I3 (w : World) (g gw n : Nat) (xs ys : List Int) (rest : List Value) (t : Value) (wr : World) : Prop :=
  ∃ (p : Nat) (zs : List Int), p ≤ n ∧ t = .int .i64 (p : Int) ∧ SelOuter xs zs p ∧ zs.length = n ∧ Want wr gw zs ∧ Blk wr g 50 (cellsOf ys ++ rest) ∧ Below w.heap.size w wr
def I4 (wo : World) (n p : Nat) (zs : List Int) (tm tq : Value) (wr : World) : Prop :=
  ∃ (m q : Nat), tm = .int .i64 (m : Int) ∧ tq = .int .i64 (q : Int) ∧ q ≤ n ∧ SelInner zs p q m ∧ Kept wo wr
def I5 (w0 : World) (n : Nat) (t : Value) (wr : World) : Prop := ∃ k : Nat, k ≤ n ∧ t = .int .i64 (k : Int) ∧ Kept w0 wr

set_option maxRecDepth 100000 in
set_option maxHeartbeats 8000000 in
theorem main (A : Option Addr) (n cap : Nat) (xs : List Int) (w : World) (h0 : 1 ≤ n) (hn : n ≤ 1024) (hr : Row w A n cap (xs.map (Value.int .u32))) :
    Calls Try.prog 7 #[.slice A n cap] w fun e w' => e = .returned (.bool true) ∧ Below w.heap.size w w' := by
  have hlen : xs.length = n := by simpa using hr.1
  obtain ⟨b, off, hA, hbl, hcell⟩ := hr.2.2.2.2 (by omega)
  subst hA
  have HR := Lib.hid hr
  have HL := Lib.hid hlen
  have HC := Lib.hid hcell
  clear hr hlen hcell
  go_enter Try.func7, Try.ntmps7
  go_wp2_with fail
  refine (bytes_ok _ n cap w (by omega)).mono ?_
  rintro e w' ⟨rfl, rfl⟩
  go_wp2_with fail
  refine (build _ n cap xs w HR.out (by omega)).mono ?_
  rintro e w1 ⟨v, rfl, hown, hk1⟩
  obtain ⟨g, c, rest, rfl, hbg, hblk⟩ := built_blk hown (by omega)
  have HI1 : Hid (I1 w g n xs rest (.int .i64 1) w1) := Lib.hid ⟨1, xs, by omega, by omega, rfl, ins_zero xs, HL.out, hblk, hk1⟩
  clear hown hblk hk1
  go_wp2_with fail
  go_loopw [5, 6] (fun t _ wr => I1 w g n xs rest t wr) (fun t _ _ => n - (intOf t).toNat)
  case atStart => exact HI1.out
  case round =>
    obtain ⟨i, ys, hi1, hin, rfl, hio, hyl, hblk, hbel⟩ := hrel
    clear HI1
    obtain ⟨wo, hwo⟩ : ∃ wo : World, wo = wr := ⟨_, rfl⟩
    subst hwo
    by_cases hlt : i < n
    · have HI2 : Hid (I2 w g n i xs rest (.int .i64 (i : Int)) wo) := Lib.hid ⟨i, ys, rfl, ins_start hio, hyl, hblk, hbel⟩
      clear hio hyl hblk hbel
      go_wp2_with fail
      go_loopw [6] (fun t wr => I2 w g n i xs rest t wr) (fun t _ => (intOf t).toNat)
      case atStart => exact HI2.out
      case round =>
        obtain ⟨j, zs, rfl, hii, hzl, hblk, hbel⟩ := hrel
        clear HI2
        rcases j with _ | j
        · have HRR : Hid (I1 w g n xs rest (.int .i64 ((i : Int) + 1)) wr) := Lib.hid ⟨i + 1, zs, by omega, by omega, by go_num, ins_end0 hii, hzl, hblk, hbel⟩
          clear hii hzl hblk hbel
          go_wp2_with fail
          go_roundw
          case rel => first | exact HRR.out | ((repeat apply Exists.intro); exact ⟨HRR.out, rfl⟩)
          case measure => simp [intOf]; omega
        · have hji : j + 1 ≤ i := hii.2.1
          rw [show ((j + 1 : Nat) : Int) = (j : Int) + 1 from rfl]
          have HLS := less g n c zs (j + 1) j wr (by omega) (by omega) (by omega) (fun k hk => (app_at hblk (by omega)).2)
          rw [show ((j + 1 : Nat) : Int) = (j : Int) + 1 from rfl] at HLS
          by_cases hl : zs.getD (j + 1) 0 < zs.getD j 0
          · rw [decide_eq_true hl] at HLS
            have HST := Lib.hid (ins_step hii (by omega) hl)
            have HLS1 := Lib.hid HLS
            have HBK := Lib.hid hblk
            have HZL := Lib.hid hzl
            have HBL := Lib.hid hbel
            clear HLS hii hblk hbel hzl hl
            go_wp2_with fail
            refine HLS1.out.mono ?_
            rintro e w' ⟨rfl, hk⟩
            have HK := Lib.hid hk
            have HSW := swap20 w' g n c zs rest (j + 1) j (HBK.out.kept hk) HZL.out (by omega) (by omega) (by omega) (by omega)
            rw [show ((j + 1 : Nat) : Int) = (j : Int) + 1 from rfl] at HSW
            have HSW1 := Lib.hid HSW
            clear hk HSW
            go_wp2_with fail
            refine HSW1.out.mono ?_
            rintro e w'' ⟨rfl, hb2, ho2⟩
            have HRR : Hid (I2 w g n i xs rest (.int .i64 (j : Int)) w'') := Lib.hid ⟨j, _, rfl, HST.out, by rw [swp_length]; exact HZL.out, hb2, (HBL.out.trans (Below.mono HK.out HBL.out.size)).trans (ho2.below hbg (Nat.le_trans HBL.out.size HK.out.size))⟩
            clear hb2 ho2
            go_wp2_with fail
            go_roundw
            case rel => first | exact HRR.out | ((repeat apply Exists.intro); exact ⟨HRR.out, rfl⟩)
            case measure => simp [intOf]
          · rw [decide_eq_false hl] at HLS
            have HST := Lib.hid (ins_end hii hl)
            have HLS1 := Lib.hid HLS
            have HBK := Lib.hid hblk
            have HZL := Lib.hid hzl
            have HBL := Lib.hid hbel
            clear HLS hii hblk hbel hzl hl
            go_wp2_with fail
            refine HLS1.out.mono ?_
            rintro e w' ⟨rfl, hk⟩
            have HRR : Hid (I1 w g n xs rest (.int .i64 ((i : Int) + 1)) w') := Lib.hid ⟨i + 1, zs, by omega, by omega, by go_num, HST.out, HZL.out, HBK.out.kept hk, HBL.out.trans (Below.mono hk HBL.out.size)⟩
            clear hk
            go_wp2_with fail
            go_roundw
            case rel => first | exact HRR.out | ((repeat apply Exists.intro); exact ⟨HRR.out, rfl⟩)
            case measure => simp [intOf]; omega
    · obtain rfl : n = i := by omega
      have HSO := Lib.hid hio
      have HYL := Lib.hid hyl
      have HBK := Lib.hid hblk
      have HBL := Lib.hid hbel
      have hwsz : w.heap.size ≤ wo.heap.size := hbel.size
      have hgw0 : g < wo.heap.size := hblk.lt
      clear hio hyl hblk hbel hlt
      have hmk := fun wx : World => run_make_row' (P := Try.prog) 36 42 (.int .u32 0) 4 Try.underlying36 info42 rfl .i64 .i64 n (by omega) (by omega) wx
      have hmc : (madeCells #[Value.int .u32 0] n).toList = List.replicate n (.int .u32 0) := toList_madeCells_one _ n
      have HM := Lib.hid hmc
      clear hmc
      generalize hC : madeCells #[Value.int .u32 0] n = C at *
      clear hC
      have hCl : C = (List.replicate n (Value.int .u32 0)).toArray := by rw [← Array.toList_inj, HM.out]
      have HB := Lib.hid (show Blk (wo.alloc (.cells C 42)) wo.heap.size 42 (List.replicate n (Value.int .u32 0)) by rw [hCl]; exact Blk.new _ _ _)
      have HF : Hid (0 < (xs.map (Value.int .u32)).length → some (⟨wo.heap.size, 0, none⟩ : Addr) = some ⟨wo.heap.size, 0, none⟩ ∧ ∃ ad, some (⟨b, off, none⟩ : Addr) = some ad ∧ ∀ j v, (xs.map (Value.int .u32))[j]? = some v → (wo.alloc (.cells C 42)).cell? (ad.add j) = some v) := by
        refine Lib.hid (fun _ => ⟨rfl, ⟨b, off, none⟩, rfl, fun j v hj => ?_⟩)
        have e : (⟨b, off, none⟩ : Addr).add j = ⟨b, off + j, none⟩ := by
          unfold Addr.add
          by_cases h : j = 0 <;> simp [h]
        obtain ⟨hj1, hj2⟩ := List.getElem?_eq_some_iff.1 hj
        rw [e, World.cell?_alloc_lt wo _ _ (by show b < wo.heap.size; omega)]
        rw [HBL.out.cell (p := ⟨b, off + j, none⟩) hbl, HC.out j hj1, hj2]
      have HCl := Lib.hid hCl
      clear hCl HM
      go_wp2_with (refine wpList_copy_splice (o := ⟨some 49, _, _, _, _, _⟩) rfl (.tmp 47) (.tmp 48) 36 36 rfl 42 Try.underlying36 size1 (some ⟨wo.heap.size, 0, none⟩) (some ⟨b, off, none⟩) n n n cap rfl rfl wo.heap.size 0 (List.replicate n (Value.int .u32 0)) 42 HB.out (xs.map (Value.int .u32)) ?c1 HF.out ?c3 ?c4 wo.heap.size wo ((Kept.refl wo).alloc _).below (Nat.le_refl _) ?_)
      case c1 => first | exact HL.out | (rw [List.length_map, HL.out]; exact (Nat.min_self n).symm)
      case c3 => simp [HL.out]
      case c4 =>
        intro v hv
        first | rfl | (obtain ⟨x, _, rfl⟩ := List.mem_map.1 hv; rfl)
      intro w2 hw2 hk2
      have hx : splice (List.replicate n (Value.int .u32 0)) 0 (xs.map (Value.int .u32)) = xs.map (Value.int .u32) := by
        have := HL.out
        simp [splice, this]
      have hwant : Want w2 wo.heap.size xs := by
        have h2 := hw2.out
        rw [hx] at h2
        exact h2
      have hgne : g ≠ wo.heap.size := by omega
      have HI3 : Hid (I3 w g wo.heap.size n xs ys rest (.int .i64 0) w2) := Lib.hid ⟨0, xs, by omega, rfl, sel_zero xs, HL.out, hwant, HBK.out.kept hk2, HBL.out.trans (Below.mono hk2 hwsz)⟩
      clear hw2 hk2 hx hwant HB HF HCl hmk
      generalize wo.heap.size = gw at *
      go_wp2_with fail
      go_loopw [8, 9, 10, 11] (fun t _ _ _ wr => I3 w g gw n xs ys rest t wr) (fun t _ _ _ _ => n - (intOf t).toNat)
      case atStart => exact HI3.out
      case round =>
        obtain ⟨p, zs, hpn, rfl, hso, hzl, hwt, hblk, hbel⟩ := hrel
        clear HI3 HBK HBL
        obtain ⟨w3, hw3⟩ : ∃ w3 : World, w3 = wr := ⟨_, rfl⟩
        subst hw3
        by_cases hlt : p < n
        · have HSL := Lib.hid hso
          have HZL := Lib.hid hzl
          have HWT := Lib.hid hwt
          have HBK := Lib.hid hblk
          have HBL := Lib.hid hbel
          clear hso hzl hwt hblk hbel
          have HI4 : Hid (I4 w3 n p zs (.int .i64 (p : Int)) (.int .i64 ((p : Int) + 1)) w3) := Lib.hid ⟨p, p + 1, rfl, by go_num, by omega, sel_start zs p, Kept.refl _⟩
          go_wp2_with fail
          go_loopw [9, 10] (fun tm tq wr => I4 w3 n p zs tm tq wr) (fun _ t _ => n - (intOf t).toNat)
          case atStart => exact HI4.out
          case round =>
            obtain ⟨m, q, rfl, rfl, hqn, hsi, hk3⟩ := hrel
            clear HI4
            have hmq := hsi.2.1
            have hpm := hsi.1
            by_cases hlq : q < n
            · have c1 : wr.cell? ⟨gw, q, none⟩ = some (.int .u32 (zs.getD q 0)) := hk3.cell (HWT.out.at (by rw [HZL.out]; exact hlq))
              have c2 : wr.cell? ⟨gw, m, none⟩ = some (.int .u32 (zs.getD m 0)) := hk3.cell (HWT.out.at (by rw [HZL.out]; omega))
              have i1 : (q : Int) < (n : Int) := by omega
              have i2 : (m : Int) < (n : Int) := by omega
              have i3 : (0 : Int) ≤ (q : Int) := by omega
              have i4 : (0 : Int) ≤ (m : Int) := by omega
              have HS1 := Lib.hid (fun h => sel_less (zs := zs) hsi h)
              have HS2 := Lib.hid (fun h => sel_more (zs := zs) hsi h)
              have HK3 := Lib.hid hk3
              clear hsi hk3
              by_cases hl : zs.getD q 0 < zs.getD m 0
              · have HS := Lib.hid (HS1.out hl)
                have hl1 : decide (zs.getD q 0 < zs.getD m 0) = true := decide_eq_true hl
                clear HS1 HS2
                generalize zs.getD q 0 = x at *
                generalize zs.getD m 0 = y at *
                go_wp2_with fail
                go_quiet (fail)
                have HRR : Hid (∀ nq, I4 w3 n p zs (.int .i64 (q : Int)) (.int .i64 ((q : Int) + 1)) (wr.drewN nq)) := Lib.hid (fun nq => ⟨q, q + 1, rfl, by go_num, by omega, HS.out, HK3.out.drewN nq⟩)
                go_wp2_with fail
                go_roundw
                case rel => first | exact HRR.out _ | ((repeat apply Exists.intro); exact ⟨HRR.out _, rfl⟩)
                case measure => simp [intOf]; omega
              · have HS := Lib.hid (HS2.out hl)
                have hl1 : decide (zs.getD q 0 < zs.getD m 0) = false := decide_eq_false hl
                clear HS1 HS2
                generalize zs.getD q 0 = x at *
                generalize zs.getD m 0 = y at *
                go_wp2_with fail
                go_quiet (fail)
                have HRR : Hid (∀ nq, I4 w3 n p zs (.int .i64 (m : Int)) (.int .i64 ((q : Int) + 1)) (wr.drewN nq)) := Lib.hid (fun nq => ⟨m, q + 1, rfl, by go_num, by omega, HS.out, HK3.out.drewN nq⟩)
                go_wp2_with fail
                go_roundw
                case rel => first | exact HRR.out _ | ((repeat apply Exists.intro); exact ⟨HRR.out _, rfl⟩)
                case measure => simp [intOf]; omega
            · obtain rfl : n = q := by omega
              have hst := sel_step HSL.out (by rw [HZL.out]; exact hsi)
              have hwr : Want wr gw zs := HWT.out.kept hk3
              have c1 : wr.cell? ⟨gw, p, none⟩ = some (.int .u32 (zs.getD p 0)) := hwr.at (by rw [HZL.out]; omega)
              have c2 : wr.cell? ⟨gw, m, none⟩ = some (.int .u32 (zs.getD m 0)) := hwr.at (by rw [HZL.out]; omega)
              have f1 := hwr.free p
              have f2 := hwr.free m
              have hRR : ∀ x y, zs.getD m 0 = x → zs.getD p 0 = y → I3 w g gw n xs ys rest (.int .i64 ((p : Int) + 1)) ((wr.setCell ⟨gw, p, none⟩ (.int .u32 x)).setCell ⟨gw, m, none⟩ (.int .u32 y)) := by
                intro x y hx hy
                refine ⟨p + 1, swp zs p m, by omega, by go_num, hst, by rw [swp_length]; exact HZL.out, hwr.swp p m x y hx hy, ?_, ?_⟩
                · exact ((HBK.out.kept hk3).far (p := ⟨gw, p, none⟩) hgne _).far (p := ⟨gw, m, none⟩) hgne _
                · exact ((HBL.out.trans (Below.mono hk3 HBL.out.size)).setCell (p := ⟨gw, p, none⟩) hwsz _).setCell (p := ⟨gw, m, none⟩) hwsz _
              have HRR := Lib.hid hRR
              clear hRR hwr hst hsi hk3
              have i2 : (m : Int) < (n : Int) := by omega
              have i4 : (0 : Int) ≤ (m : Int) := by omega
              by_cases hpm2 : p = m
              · subst hpm2
                have HRR2 := Lib.hid (HRR.out _ _ rfl rfl)
                clear HRR c2
                generalize zs.getD p 0 = x at *
                go_wp2_with fail
                go_roundw
                case rel => first | exact HRR2.out | ((repeat apply Exists.intro); exact ⟨HRR2.out, rfl⟩)
                case measure => simp [intOf]; omega
              · have HRR2 := Lib.hid (HRR.out _ _ rfl rfl)
                clear HRR
                generalize zs.getD m 0 = x at *
                generalize zs.getD p 0 = y at *
                go_wp2_with fail
                go_roundw
                case rel => first | exact HRR2.out | ((repeat apply Exists.intro); exact ⟨HRR2.out, rfl⟩)
                case measure => simp [intOf]; omega
        · obtain rfl : n = p := by omega
          have heq : ys = zs := sorted_eq (by rw [HYL.out]; exact HSO.out) (by rw [hzl]; exact hso)
          subst heq
          have HWT := Lib.hid hwt
          have HBK := Lib.hid hblk
          have HBL := Lib.hid hbel
          clear hwt hblk hbel hso hzl hlt
          go_wp2_with fail
          refine (len21 _ n c w3).mono ?_
          rintro e w' ⟨rfl, rfl⟩
          go_wp2_with fail
          go_loopw [12] (fun t wr => I5 w3 n t wr) (fun t _ => n - (intOf t).toNat)
          case atStart => exact ⟨0, by omega, rfl, Kept.refl _⟩
          case round =>
            obtain ⟨k, hkn, rfl, hk5⟩ := hrel
            by_cases hlk : k < n
            · have c1 : wr.cell? ⟨gw, k, none⟩ = some (.int .u32 (ys.getD k 0)) := hk5.cell (HWT.out.at (by rw [HYL.out]; exact hlk))
              have hat := app_at HBK.out (show k < ys.length by rw [HYL.out]; exact hlk)
              have c2 : wr.cell? ⟨g, k * 2, none⟩ = some (.slice none 0 0) := hk5.cell hat.1
              have c3 : wr.cell? ⟨g, k * 2 + 1, none⟩ = some (.int .u32 (ys.getD k 0)) := hk5.cell hat.2
              have i1 : (k : Int) < (n : Int) := by omega
              have i3 : (0 : Int) ≤ (k : Int) := by omega
              have HK5 := Lib.hid hk5
              clear hk5 hat
              generalize ys.getD k 0 = x at *
              go_wp2_with fail
              go_region_held3 (fun W => W.cell? ⟨gw, k, none⟩ = some (.int .u32 x) ∧ W.cell? ⟨g, k * 2, none⟩ = some (.slice none 0 0) ∧ W.cell? ⟨g, k * 2 + 1, none⟩ = some (.int .u32 x)) (first | exact ⟨c1, c2, c3⟩ | exact ⟨hkk.cell c1, hkk.cell c2, hkk.cell c3⟩ | go_keep)
                (first | (go_at_call 22; refine (index22 x _).mono ?_; rintro e w' ⟨rfl, hkk⟩))
              have HRR : Hid (I5 w3 n (.int .i64 ((k : Int) + 1)) w') := Lib.hid ⟨k + 1, by omega, by go_num, HK5.out.drew.trans hkk⟩
              clear hkk
              go_wp2_with fail
              go_roundw
              case rel => first | exact HRR.out | ((repeat apply Exists.intro); exact ⟨HRR.out, rfl⟩)
              case measure => simp [intOf]; omega
            · obtain rfl : n = k := by omega
              have HK5 := Lib.hid hk5
              clear hk5
              go_wp2_with fail
              go_ret
              exact ⟨rfl, HBL.out.trans (Below.mono HK5.out HBL.out.size)⟩

set_option maxRecDepth 100000 in
set_option maxHeartbeats 2000000 in
theorem main0 (A : Option Addr) (cap : Nat) (w : World) (hr : Row w A 0 cap (([] : List Int).map (Value.int .u32))) :
    Calls Try.prog 7 #[.slice A 0 cap] w fun e w' => e = .returned (.bool true) ∧ Below w.heap.size w w' := by
  have HR := Lib.hid hr
  clear hr
  have hmk : ∀ wx : World, (Instr.makeSlice 36 (.int .i64 0) (.int .i64 0)).run Try.prog wx = .ok (.slice (some ⟨wx.heap.size, 0, none⟩) 0 0) (wx.alloc (.cells (madeCells #[Value.int .u32 0] 0) 42)) := fun wx => run_make_row' (P := Try.prog) 36 42 (.int .u32 0) 4 Try.underlying36 info42 rfl .i64 .i64 0 (by omega) (by omega) wx
  generalize madeCells #[Value.int .u32 0] 0 = C at *
  go_enter Try.func7, Try.ntmps7
  go_wp2_with fail
  refine (bytes_ok _ 0 cap w (by omega)).mono ?_
  rintro e w' ⟨rfl, rfl⟩
  go_wp2_with fail
  refine (build _ 0 cap [] w HR.out (by omega)).mono ?_
  rintro e w1 ⟨v, rfl, hown, hk1⟩
  obtain ⟨A2, c2, rfl⟩ : ∃ A2 c2, v = .slice A2 0 c2 := by
    rcases hown.2 with ⟨e1, _⟩ | ⟨g, cp, cur, e1, _⟩
    · exact ⟨none, 0, e1⟩
    · exact ⟨_, _, e1⟩
  have HK := Lib.hid hk1
  clear hown hk1
  go_wp2_with fail
  go_loop [5, 6] (fun t _ => t = .int .i64 1) (fun _ _ => 0)
  case atStart => rfl
  case round =>
    obtain rfl := hrel
    go_wp2_with (with_reducible refine wpList_copy_nothing rfl (.tmp 47) (.tmp 48) 36 36 rfl 42 Try.underlying36 size1 _ _ _ _ _ _ rfl rfl rfl ?_)
    go_loop [8, 9, 10, 11] (fun t _ _ _ => t = .int .i64 0) (fun _ _ _ _ => 0)
    case atStart => rfl
    case round =>
      obtain rfl := hrel
      go_wp2_with fail
      refine (len21 _ 0 c2 _).mono ?_
      rintro e w' ⟨rfl, rfl⟩
      go_wp2_with fail
      go_loop [12] (fun t => t = .int .i64 0) (fun _ => 0)
      case atStart => rfl
      case round =>
        obtain rfl := hrel
        go_wp2_with fail
        go_ret
        exact ⟨rfl, HK.out.alloc _⟩

set_option maxHeartbeats 2000000 in
theorem walk (a0 : Option Addr) (len0 cap0 : Nat) (z0 : List Int) (w : World) (w0 : IsRow .u32 w a0 len0 cap0 z0) :
    Calls Try.prog 7 #[.slice a0 len0 cap0] w fun e w' => e = .returned (.bool true) ∧ Below w.heap.size w w' := by
  have hrow : Row w a0 len0 cap0 ((z0.take len0).map (Value.int .u32)) := by
    rcases w0 with ⟨rfl, rfl, rfl, rfl⟩ | ⟨x, rfl, hl, hm, hz, hcell, hwz⟩
    · exact Row.nil w
    · exact Row.of_cells hl hm hz hcell
  have hml : (len0 : Int) ≤ 9223372036854775807 := by
    have h1 := hrow.2.1; have h2 := hrow.2.2.1; unfold maxLen at h2; omega
  have HR := Lib.hid hrow
  clear w0 hrow
  by_cases c1 : 1048576 < len0
  · go_enter Try.func7, Try.ntmps7
    go_wp2_with fail
    refine (bytes_no a0 len0 cap0 w c1).mono ?_
    rintro e w' ⟨rfl, rfl⟩
    go_wp2
    go_ret
    exact ⟨rfl, Below.refl _ _⟩
  by_cases c2 : 1024 < len0
  · go_enter Try.func7, Try.ntmps7
    go_wp2_with fail
    refine (bytes_ok a0 len0 cap0 w (by omega)).mono ?_
    rintro e w' ⟨rfl, rfl⟩
    go_wp2
    go_ret
    exact ⟨rfl, Below.refl _ _⟩
  by_cases c3 : len0 = 0
  · subst c3
    exact main0 a0 cap0 w (by simpa using HR.out)
  · exact main a0 len0 cap0 _ w (by omega) (by omega) HR.out
end Go.Proofs.Ytmpiepanajhfdaa.fnCCIALessSortsByChunkIndex
