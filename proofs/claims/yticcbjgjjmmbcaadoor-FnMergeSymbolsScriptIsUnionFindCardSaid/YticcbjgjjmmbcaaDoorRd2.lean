/-
  zzReadTargets over this seat's program: every symbol's link as a flat index, -1 for none.
  Conditions: every link is none or one of the flat list's refs.
-/
import Derived.Test.YticcbjgjjmmbcaaDoorRd
import Derived.Deep.RegionHeld3
namespace Go.Proofs.YticcbjgjjmmbcaaDoor.p236
open Go.ChangeShapes Go.WideShapes Go.ChangeAt Go.RowKit
open kit chain arena cut arr

theorem fieldLink (nm : ByteArray) (x y us fl kd : Int) (W : World) : (Instr.field 57 (.agg #[.pointer none, .string nm, .int .u32 x, .int .u32 y, .int .u32 us, .int .u32 0, .int .u32 0, .int .u16 fl, .int .u8 kd, .int .u8 0]) 2).run Tryd.prog W = .ok (.agg #[.int .u32 x, .int .u32 y]) W := by kernel_rfl
/-- a new block that holds a ref, beside what was there -/
structure Nw (wr W : World) (nb : Nat) (la lb : Int) : Prop where
  kept : Kept wr W
  blk : Blk W nb 44 [.int .u32 la, .int .u32 lb]
theorem nw1 {wr w' : World} {la lb : Int} (hk : Kept wr w') : Nw wr (w'.alloc (.cells #[.int .u32 la, .int .u32 lb] 44)) w'.heap.size la lb := ⟨hk.alloc _, Blk.new w' 44 [.int .u32 la, .int .u32 lb]⟩
theorem nw2 {wr w' : World} {la lb : Int} {nb : Nat} (hk : Kept wr w') (hb : Blk w' nb 44 [.int .u32 0, .int .u32 0]) (hn : wr.heap.size ≤ nb) : Nw wr ((w'.setCell ⟨nb, 0, none⟩ (.int .u32 la)).setCell ⟨nb, 1, none⟩ (.int .u32 lb)) nb la lb :=
  ⟨(hk.setCell hn _).setCell hn _, (hb.set 0 (.int .u32 la)).set 1 (.int .u32 lb)⟩
theorem ref_ne_inv {zs : List Int} {n y : Nat} (hy : y < n) (hS : srcs zs n ≤ 4097) : ref zs n y ≠ inv := fun e => by
  have h := (ref_ok zs n hy).2.2.1
  rw [e] at h
  simp only [inv] at h
  omega

set_option maxRecDepth 100000 in
set_option maxHeartbeats 8000000 in
theorem readC (w : World) (g : Nat) (bk : Nat → Nat) (τ : Tab) (rb cb c sb n : Nat) (zs : List Int) (F : Nat → Int) (hA : Arena w g bk (srcs zs n) τ) (hR : RefAt w rb zs n) (hC : IntAt w cb (counts zs n)) (hT : IntAt w sb (starts zs n)) (hn : n ≤ 4096) (hS : srcs zs n ≤ 4097)
    (hV : ∀ j, j < n → Valid (srcs zs n) τ (ref zs n j)) (hF : ∀ j, j < n → (lnk τ (ref zs n j) = inv ∧ F j = -1) ∨ ∃ y : Nat, y < n ∧ lnk τ (ref zs n j) = ref zs n y ∧ F j = (y : Int)) :
    Calls Tryd.prog 20 #[mapV g (srcs zs n), .slice (some ⟨rb, 0, none⟩) n n, .slice (some ⟨cb, 0, none⟩) (srcs zs n) c, .slice (some ⟨sb, 0, none⟩) (srcs zs n) (srcs zs n)] w
      fun e w' => e = .returned (.tuple #[.slice (some ⟨w.heap.size + 1, 0, none⟩) n n, .bool true]) ∧ IntAt w' (w.heap.size + 1) ((List.range n).map F) ∧ Kept w w' := by
  obtain ⟨C, hC0, hmk⟩ := makeInts n (by omega)
  have HC0 := Lib.hid hC0
  have HA := Lib.hid hA
  have HR := Lib.hid hR
  have HC := Lib.hid hC
  have HT := Lib.hid hT
  have HV := Lib.hid hV
  have HF := Lib.hid hF
  have HS := Lib.hid hS
  clear hC0 hA hR hC hT hV hF hS
  unfold mapV
  go_enter Tryd.func20, Tryd.ntmps20
  go_wp2
  obtain ⟨wb, hwb⟩ : ∃ wb, wb = w.alloc (.cells #[.slice (some ⟨g, 0, none⟩) (srcs zs n) (srcs zs n)] 39) := ⟨_, rfl⟩
  have KB : Hid (Kept w wb) := Lib.hid (by rw [hwb]; exact (Kept.refl _).alloc _)
  have BB : Hid (Blk wb w.heap.size 39 [.slice (some ⟨g, 0, none⟩) (srcs zs n) (srcs zs n)]) := Lib.hid (by rw [hwb]; exact Blk.new _ _ _)
  have SB : Hid (wb.heap.size = w.heap.size + 1) := Lib.hid (by rw [hwb]; simp)
  have B0 : Hid (Blk (wb.alloc (.cells C 3)) (w.heap.size + 1) 3 (fillV (fun i => .int .i64 (F i)) (.int .i64 0) n 0) ∧ Kept wb (wb.alloc (.cells C 3))) := Lib.hid ⟨by rw [← SB.out]; exact blkMade HC0.out _, (Kept.refl _).alloc _⟩
  rw [← hwb]
  clear hwb
  go_loopw [12, 13, 14] (fun t _ _ wr => ∃ k : Nat, k ≤ n ∧ t = .int .i64 (k : Int) ∧ Hid (Blk wr (w.heap.size + 1) 3 (fillV (fun i => .int .i64 (F i)) (.int .i64 0) n k) ∧ Kept wb wr)) (fun t _ _ _ => n - (intOf t).toNat)
  case atStart => exact ⟨0, by omega, rfl, B0⟩
  case round =>
    obtain ⟨k, hk, rfl, HB⟩ := hrel
    clear B0
    by_cases hlt : k < n
    · have hki : (k : Int) < (n : Int) := by omega
      have KR : Hid (Kept w wr) := Lib.hid (KB.out.trans HB.out.2)
      have x0 : wr.cell? ⟨w.heap.size, 0, none⟩ = some (.slice (some ⟨g, 0, none⟩) (srcs zs n) (srcs zs n)) := HB.out.2.cell (BB.out.cell 0)
      obtain ⟨j0, j1⟩ := HR.out.cells hlt
      have x1 := KR.out.cell j0
      have x2 := KR.out.cell j1
      have HL := Lib.hid (HF.out k hlt)
      have HCELL := Lib.hid (fun (W : World) (kk : Kept wr W) => (cellC W g bk (srcs zs n) τ (ref zs n k) ((HA.out.kept KR.out).kept kk) (HV.out k hlt)).mono (fun e w' (f : e = .returned (symV (symAt τ (ref zs n k))) ∧ Kept W w') => (show (∃ nm us fl kd, e = .returned (.agg #[.pointer none, .string nm, .int .u32 ((lnk τ (ref zs n k)).1 : Int), .int .u32 ((lnk τ (ref zs n k)).2 : Int), .int .u32 us, .int .u32 0, .int .u32 0, .int .u16 fl, .int .u8 kd, .int .u8 0])) ∧ Kept wr w' ∧ (W.cell? ⟨wr.heap.size, 0, none⟩ = some (.int .u32 0) → w'.cell? ⟨wr.heap.size, 0, none⟩ = some (.int .u32 0) ∧ w'.frozen? ⟨wr.heap.size, 0, none⟩ = W.frozen? ⟨wr.heap.size, 0, none⟩) ∧ (W.cell? ⟨wr.heap.size, 1, none⟩ = some (.int .u32 0) → w'.cell? ⟨wr.heap.size, 1, none⟩ = some (.int .u32 0) ∧ w'.frozen? ⟨wr.heap.size, 1, none⟩ = W.frozen? ⟨wr.heap.size, 1, none⟩) ∧ Hid (∀ cs, Blk W wr.heap.size 44 cs → Blk w' wr.heap.size 44 cs) from
        ⟨⟨(symAt τ (ref zs n k)).name, ((symAt τ (ref zs n k)).use : Int), ((symAt τ (ref zs n k)).flags : Int), ((symAt τ (ref zs n k)).kind : Int), f.1⟩, kk.trans f.2, fun hc => ⟨f.2.cell hc, f.2.frozen hc rfl⟩, fun hc => ⟨f.2.cell hc, f.2.frozen hc rfl⟩, Lib.hid (fun _ hb => hb.kept f.2)⟩)))
      unfold mapV refV at HCELL
      have hfld := fieldLink
      have hsz : w.heap.size < wr.heap.size := by have := HB.out.2.size; have := SB.out; omega
      clear j0 j1
      generalize hL : lnk τ (ref zs n k) = L at *
      clear hL
      generalize ref zs n k = pk at *
      go_wp2_with fail
      go_region_held3 (fun W => W.cell? ⟨w.heap.size, 0, none⟩ = some (.slice (some ⟨g, 0, none⟩) (srcs zs n) (srcs zs n)) ∧ W.cell? ⟨rb, k * 2, none⟩ = some (.int .u32 (pk.1 : Int)) ∧ W.cell? ⟨rb, k * 2 + 1, none⟩ = some (.int .u32 (pk.2 : Int))) (first | exact ⟨hk5.cell x0, hk5.cell x1, hk5.cell x2⟩ | exact ⟨(hk5.alloc _).cell x0, (hk5.alloc _).cell x1, (hk5.alloc _).cell x2⟩ | exact ⟨((hk5.setCell (Nat.le_refl _) _).setCell (Nat.le_refl _) _).cell x0, ((hk5.setCell (Nat.le_refl _) _).setCell (Nat.le_refl _) _).cell x1, ((hk5.setCell (Nat.le_refl _) _).setCell (Nat.le_refl _) _).cell x2⟩ | exact ⟨((Kept.refl wr).drew.alloc _).cell x0, ((Kept.refl wr).drew.alloc _).cell x1, ((Kept.refl wr).drew.alloc _).cell x2⟩ | go_keep)
        (first | (go_at_call 21; refine (HCELL.out _ ?_).mono ?_; (repeat (first | exact Kept.refl _ | apply Kept.drew | apply Kept.alloc)); rintro e w5 ⟨⟨nm, us, fl, kd, rfl⟩, hk5, u0, u1, hbk⟩))
      all_goals
        first
        | have HN := Lib.hid (nw2 (la := (L.1 : Int)) (lb := (L.2 : Int)) hk5 (hbk.out [.int .u32 0, .int .u32 0] (by first | exact (Blk.new wr _ _).drew | exact Blk.new wr.drew _ _)) (Nat.le_refl _))
          obtain ⟨W, hW⟩ : ∃ W, W = (w5.setCell ⟨wr.heap.size, 0, none⟩ (.int .u32 (L.1 : Int))).setCell ⟨wr.heap.size, 1, none⟩ (.int .u32 (L.2 : Int)) := ⟨_, rfl⟩
          rw [← hW] at HN ⊢
          clear hW
          obtain ⟨nb, hnb⟩ : ∃ nb, nb = wr.heap.size := ⟨_, rfl⟩
          rw [← hnb] at HN ⊢
          clear hnb
        | have HN := Lib.hid (nw1 (la := (L.1 : Int)) (lb := (L.2 : Int)) hk5)
          generalize w5.alloc (.cells #[.int .u32 (L.1 : Int), .int .u32 (L.2 : Int)] 44) = W at *
          generalize w5.heap.size = nb at *
      all_goals
        rename_i hheld
        clear hheld u0 u1 hbk hk5 x0 x1 x2 HCELL hfld
        have y0 : W.cell? ⟨nb, 0, none⟩ = some (.int .u32 (L.1 : Int)) := HN.out.blk.cell 0
        have y1 : W.cell? ⟨nb, 1, none⟩ = some (.int .u32 (L.2 : Int)) := HN.out.blk.cell 1
        have HINV := Lib.hid (fun (V : World) (kk : Kept W V) => (invC V).mono (fun e w' (f : e = .returned (.agg #[.int .u32 4294967295, .int .u32 4294967295]) ∧ Kept V w') => (show e = .returned (.agg #[.int .u32 4294967295, .int .u32 4294967295]) ∧ Kept W w' from ⟨f.1, kk.trans f.2⟩)))
        rcases HL.out with ⟨hl, hf⟩ | ⟨y, hy, hl, hf⟩
        · subst hl
          have he : ∀ V : World, (binOp .eql 44 (.agg #[.int .u32 (inv.1 : Int), .int .u32 (inv.2 : Int)]) (.agg #[.int .u32 4294967295, .int .u32 4294967295])).run Tryd.prog V = .ok (.bool true) V := fun V => by
            have := eqRef V inv inv
            rw [decide_eq_true rfl] at this
            exact this
          have HFK := Lib.hid hf
          clear hf HL
          go_wp2_with fail
          go_region_held3 (fun V => V.cell? ⟨nb, 0, none⟩ = some (.int .u32 (inv.1 : Int)) ∧ V.cell? ⟨nb, 1, none⟩ = some (.int .u32 (inv.2 : Int))) (first | exact ⟨hk6.cell y0, hk6.cell y1⟩ | go_keep)
            (first | (go_at_call 24; refine (HINV.out _ ?_).mono ?_; (repeat (first | exact Kept.refl _ | apply Kept.drew)); rintro e w6 ⟨rfl, hk6⟩))
          rename_i hheld
          clear hheld
          have KX : Hid (Kept wr w6) := Lib.hid (HN.out.kept.trans hk6)
          have b1 : Blk w6 (w.heap.size + 1) 3 (fillV (fun i => .int .i64 (F i)) (.int .i64 0) n k) := HB.out.1.kept KX.out
          have z1 : w6.cell? ⟨w.heap.size + 1, k, none⟩ = some (.int .i64 0) := by rw [b1.cell, fillV_at _ _ hlt]
          have z2 := b1.free k
          have HRX : Hid (Blk (w6.setCell ⟨w.heap.size + 1, k, none⟩ (.int .i64 (-1))) (w.heap.size + 1) 3 (fillV (fun i => .int .i64 (F i)) (.int .i64 0) n (k + 1)) ∧ Kept wb (w6.setCell ⟨w.heap.size + 1, k, none⟩ (.int .i64 (-1)))) := Lib.hid ⟨by
            have h := b1.set k (.int .i64 (F k))
            rw [fillV_set (fun i => Value.int .i64 (F i)) (.int .i64 0) hlt, HFK.out] at h
            exact h, (HB.out.2.trans KX.out).setCell (by have := SB.out; show wb.heap.size ≤ w.heap.size + 1; omega) _⟩
          clear b1
          go_wp2_with fail
          go_roundw
          case rel => first | exact ⟨k + 1, by omega, by go_num, HRX⟩
          case measure => simp [intOf]; omega
        · have HFK := Lib.hid hf
          have hne := ref_ne_inv hy HS.out
          subst hl
          have he : ∀ V : World, (binOp .eql 44 (.agg #[.int .u32 ((ref zs n y).1 : Int), .int .u32 ((ref zs n y).2 : Int)]) (.agg #[.int .u32 4294967295, .int .u32 4294967295])).run Tryd.prog V = .ok (.bool false) V := fun V => by
            have := eqRef V (ref zs n y) inv
            rw [decide_eq_false hne] at this
            exact this
          clear hf HL hne
          go_wp2_with fail
          go_region_held3 (fun V => V.cell? ⟨nb, 0, none⟩ = some (.int .u32 ((ref zs n y).1 : Int)) ∧ V.cell? ⟨nb, 1, none⟩ = some (.int .u32 ((ref zs n y).2 : Int))) (first | exact ⟨hk6.cell y0, hk6.cell y1⟩ | go_keep)
            (first | (go_at_call 24; refine (HINV.out _ ?_).mono ?_; (repeat (first | exact Kept.refl _ | apply Kept.drew)); rintro e w6 ⟨rfl, hk6⟩))
          rename_i hheld
          clear hheld
          have KY : Hid (Kept w w6) := Lib.hid (KR.out.trans (HN.out.kept.trans hk6))
          have v0 := hk6.cell y0
          have v1 := hk6.cell y1
          have HFL := Lib.hid (flatC cb c sb n y zs w6 (HC.out.kept KY.out) (HT.out.kept KY.out) hy hn HS.out)
          unfold refV at HFL
          clear y0 y1 HINV he
          go_wp2_with fail
          refine HFL.out.mono ?_
          rintro e w7 ⟨rfl, hk7⟩
          have KX : Hid (Kept wr w7) := Lib.hid ((HN.out.kept.trans hk6).trans hk7)
          have b1 : Blk w7 (w.heap.size + 1) 3 (fillV (fun i => .int .i64 (F i)) (.int .i64 0) n k) := HB.out.1.kept KX.out
          have z1 : w7.cell? ⟨w.heap.size + 1, k, none⟩ = some (.int .i64 0) := by rw [b1.cell, fillV_at _ _ hlt]
          have z2 := b1.free k
          have HRX : Hid (Blk (w7.setCell ⟨w.heap.size + 1, k, none⟩ (.int .i64 ((y : Int)))) (w.heap.size + 1) 3 (fillV (fun i => .int .i64 (F i)) (.int .i64 0) n (k + 1)) ∧ Kept wb (w7.setCell ⟨w.heap.size + 1, k, none⟩ (.int .i64 ((y : Int))))) := Lib.hid ⟨by
            have h := b1.set k (.int .i64 (F k))
            rw [fillV_set (fun i => Value.int .i64 (F i)) (.int .i64 0) hlt, HFK.out] at h
            exact h, (HB.out.2.trans KX.out).setCell (by have := SB.out; show wb.heap.size ≤ w.heap.size + 1; omega) _⟩
          clear b1
          go_wp2_with fail
          go_roundw
          case rel => first | exact ⟨k + 1, by omega, by go_num, HRX⟩
          case measure => simp [intOf]; omega
    · obtain rfl : n = k := by omega
      go_wp2
      go_ret2
      refine ⟨rfl, IntAt.of_fill HB.out.1, KB.out.trans HB.out.2⟩
end Go.Proofs.YticcbjgjjmmbcaaDoor.p236
