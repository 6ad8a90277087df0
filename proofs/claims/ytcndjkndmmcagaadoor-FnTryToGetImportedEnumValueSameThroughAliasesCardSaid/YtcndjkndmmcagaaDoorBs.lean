/-
  The law's maker of a symbol map over this seat's program: one source whose symbols have the given links and kinds.
  Conditions: at most 65536 symbols; valid links.
-/
import Derived.Test.YtcndjkndmmcagaaDoorGd
import Derived.Deep.OwnRows
namespace Go.Proofs.YtcndjkndmmcagaaDoor.mp
open Go.ChangeShapes Go.WideShapes Go.ChangeAt Go.RowKit
open kit chain arena

theorem zref (x : Int) (w : World) : Calls Tryd.prog 16 #[.int .u32 x] w fun e w' => e = .returned (.agg #[.int .u32 0, .int .u32 x]) ∧ Kept w w' := by
  go_enter Tryd.func16, Tryd.ntmps16
  go_wp2_with fail
  exact bodyPost_ret (v := .agg #[.int .u32 0, .int .u32 x]) (by simp [results, Tryd.results16, go_sem]) rfl ⟨rfl, (Kept.refl _).alloc _⟩

/-- three fields of a new symbol written, the link first -/
theorem fill (l : List Sym) (k : Nat) (kd : Nat) (p : Ref) (hk : k < l.length) (hz : l.getD k zeroSym = zeroSym) :
    (((cellsOf l).set (k * 10 + 2) (.int .u32 (p.1 : Int))).set (k * 10 + 3) (.int .u32 (p.2 : Int))).set (k * 10 + 8) (.int .u8 (kd : Int)) = cellsOf (l.set k ⟨⟨#[]⟩, p.1, p.2, 0, 0, kd⟩) := by
  have g : ∀ y : Sym, (l.set k y).getD k zeroSym = y := fun y => by simp [hk]
  rw [cellsOf_set l k 2 _ ⟨⟨#[]⟩, p.1, 0, 0, 0, 0⟩ hk (by omega) (by rw [hz]; rfl)]
  rw [cellsOf_set _ k 3 _ ⟨⟨#[]⟩, p.1, p.2, 0, 0, 0⟩ (by simpa using hk) (by omega) (by rw [g]; rfl)]
  rw [List.set_set, cellsOf_set _ k 8 _ ⟨⟨#[]⟩, p.1, p.2, 0, 0, kd⟩ (by simpa using hk) (by omega) (by rw [g]; rfl), List.set_set]
theorem info65 : (Tryd.prog.info? 65).map (fun i => (i.zero, i.size, i.bytes)) = some (some (.agg (cells1 zeroSym).toArray), 10, 48) := by kernel_rfl
theorem made (n : Nat) : (madeCells (cells1 zeroSym).toArray (n * 10)).toList = cellsOf (List.replicate n zeroSym) := by
  apply List.ext_getElem?
  intro i
  have hsz : (cells1 zeroSym).toArray.size = 10 := rfl
  by_cases h : i < n * 10
  · have hi : i = (i / 10) * 10 + i % 10 := by omega
    have h1 : (cellsOf (List.replicate n zeroSym))[i]? = (cells1 zeroSym)[i % 10]? := by
      conv => lhs; rw [hi]
      rw [cellsOf_at _ _ _ (by simp; omega) (Nat.mod_lt _ (by omega))]
      have : i / 10 < n := by omega
      simp [this]
    rw [h1]
    have hm : i % 10 < 10 := Nat.mod_lt _ (by omega)
    simp only [madeCells, hsz, Array.toList_map, List.getElem?_map, Array.toList_range, List.getElem?_range h, Option.map_some]
    rw [getElem!_pos (cells1 zeroSym).toArray (i % 10) (by rw [hsz]; exact hm)]
    have hl : i % 10 < (cells1 zeroSym).length := hm
    rw [List.getElem?_eq_getElem hl]
    rfl
  · rw [List.getElem?_eq_none (by rw [Array.length_toList, size_madeCells]; omega), List.getElem?_eq_none (by rw [cellsOf_length]; simp; omega)]
theorem make (n : Nat) (hn : n ≤ 1048576) : ∃ C : Array Value, C.toList = cellsOf (List.replicate n zeroSym) ∧ ∀ w : World, (Instr.makeSlice 56 (.int .i64 (n : Int)) (.int .i64 (n : Int))).run Tryd.prog w = .ok (.slice (some ⟨w.heap.size, 0, none⟩) n n) (w.alloc (.cells C 65)) := by
  obtain ⟨i, hi, hz, hs, hby⟩ := info_parts info65
  refine ⟨madeCells (cells1 zeroSym).toArray (n * 10), made n, fun w => ?_⟩
  have hb : (i.bytes : Int) * (n : Int) ≤ 281474976710656 := by rw [hby]; omega
  have hr := run_make (P := Tryd.prog) w 56 65 i _ Tryd.underlying56 hi hz .i64 .i64 n n (by omega) (by omega) hb (by omega)
  simp only [Int.toNat_natCast, hs] at hr
  exact hr

def St (w : World) (zs : List Int) (ks : List Int) (n q k : Nat) (wr : World) : Prop := Blk wr (q + 1) 65 (cellsOf (upTo zs ks n k)) ∧ Blk wr q 39 [.slice none 0 0] ∧ Kept w wr
theorem St.next {w : World} {zs : List Int} {ks : List Int} {n q k : Nat} {wr w1 : World} (h : St w zs ks n q k wr) (k1 : Kept wr w1) (hk : k < n) (hq : w.heap.size = q) (p : Ref) (hp : refOf (lk zs k) = p) (kd : Nat) (hnm : (ks.getD k (-1)).toNat = kd) (a b : Int) (ha : a = (p.1 : Int)) (hb : b = (p.2 : Int)) :
    St w zs ks n q (k + 1) (((w1.setCell ⟨q + 1, k * 10 + 2, none⟩ (.int .u32 a)).setCell ⟨q + 1, k * 10 + 3, none⟩ (.int .u32 b)).setCell ⟨q + 1, k * 10 + 8, none⟩ (.int .u8 (kd : Int))) := by
  obtain ⟨h1, h2, h3⟩ := h
  subst ha hb
  refine ⟨?_, ?_, ?_⟩
  · have := (((h1.kept k1).set (k * 10 + 2) (.int .u32 (p.1 : Int))).set (k * 10 + 3) (.int .u32 (p.2 : Int))).set (k * 10 + 8) (.int .u8 (kd : Int))
    rw [fill _ k kd p (by rw [upTo_length]; exact hk) (upTo_at zs ks hk)] at this
    rw [← upTo_set zs ks hk]
    have e2 : mkS zs ks k = ⟨⟨#[]⟩, p.1, p.2, 0, 0, kd⟩ := by unfold mkS; rw [hp, hnm]
    rw [e2]
    exact this
  · have hne : q ≠ q + 1 := by omega
    exact (((h2.kept k1).far hne _).far hne _).far hne _
  · have hle : w.heap.size ≤ q + 1 := by omega
    exact (((h3.trans k1).setCell hle _).setCell hle _).setCell hle _
def BuiltS (w : World) (zs : List Int) (ks : List Int) (n : Nat) (e : Ending) (w' : World) : Prop :=
  ∃ g b, e = .returned (mapV g 1) ∧ w.heap.size ≤ g ∧ w.heap.size ≤ b ∧ Arena w' g (fun _ => b) 1 (tab zs ks n) ∧ Kept w w'

set_option maxRecDepth 100000 in
set_option maxHeartbeats 4000000 in
theorem build (A0 A1 : Option Addr) (n c0 c1 : Nat) (zs : List Int) (ks : List Int) (w : World) (h0 : Ints .i32 w A0 n zs) (h1 : Ints .u8 w A1 n ks) (hkb : ∀ j, 0 ≤ ks.getD j 0 ∧ ks.getD j 0 ≤ 255) (hl : Links n zs) (hn : n ≤ 65536) :
    Calls Tryd.prog 13 #[.slice A0 n c0, .slice none 0 0, .slice A1 n c1] w (BuiltS w zs ks n) := by
  have HL := Lib.hid hl
  have H0 := Lib.hid h0
  have H1 := Lib.hid h1
  have HKB := Lib.hid hkb
  obtain ⟨C, hC, hmk⟩ := make n (by omega)
  have HC := Lib.hid hC
  clear h0 h1 hl hC hkb
  go_enter Tryd.func13, Tryd.ntmps13
  go_wp2_with fail
  generalize hq : w.heap.size = q at *
  have HQ := Lib.hid hq
  clear hq
  have HST : Hid (St w zs ks n q 0 ((w.alloc (.cells #[.slice none 0 0] 39)).alloc (.cells C 65))) := by
    refine Lib.hid ⟨?_, ?_, ((Kept.refl _).alloc _).alloc _⟩
    · have e : C = (cellsOf (upTo zs ks n 0)).toArray := by rw [← Array.toList_inj, HC.out, upTo_zero]
      have := Blk.new (w.alloc (.cells #[.slice none 0 0] 39)) 65 (cellsOf (upTo zs ks n 0))
      rw [← e] at this
      rw [← HQ.out]
      simpa using this
    · rw [← HQ.out]; exact (Blk.new w 39 [.slice none 0 0]).alloc _
  generalize (w.alloc (.cells #[.slice none 0 0] 39)).alloc (.cells C 65) = wa at *
  clear hmk HC
  go_loopw [8] (fun t wr => ∃ k : Nat, k ≤ n ∧ t = .int .i64 (k : Int) ∧ St w zs ks n q k wr) (fun t _ => n - (intOf t).toNat)
  case atStart => exact ⟨0, by omega, rfl, HST.out⟩
  case round =>
    obtain ⟨k, hk, rfl, hst⟩ := hrel
    by_cases hlt : k < n
    · obtain ⟨b0, o0, rfl, hb0, hc0⟩ := H0.out.2 (by omega)
      obtain ⟨b1, o1, rfl, hb1, hc1⟩ := H1.out.2 (by omega)
      have x0 : wr.cell? ⟨b0, o0 + k, none⟩ = some (.int .i32 (lk zs k)) := hst.2.2.cell (hc0 k hlt)
      have x1 : wr.cell? ⟨b1, o1 + k, none⟩ = some (.int .u8 ((ks.getD k (-1)).toNat : Int)) := by
        have e : ((ks.getD k (-1)).toNat : Int) = ks.getD k (-1) := by
          have hlk : k < ks.length := by rw [H1.out.1]; exact hlt
          have hb2 := HKB.out k
          simp [hlk] at hb2 ⊢
          omega
        rw [e]
        exact hst.2.2.cell (hc1 k hlt)
      have hlk := HL.out.2 k hlt
      have hki : (k : Int) < (n : Int) := by omega
      have n0 : b0 < q := by have := HQ.out; omega
      have n1 : b1 < q := by have := HQ.out; omega
      have hat := fun i (hi : i < 10) => (hst.1.cell (k * 10 + i)).trans ((cellsOf_at _ k i (by rw [upTo_length]; exact hlt) hi).trans (by rw [upTo_at zs ks hlt]))
      have y2 : wr.cell? ⟨q + 1, k * 10 + 2, none⟩ = some (.int .u32 0) := hat 2 (by omega)
      have y3 : wr.cell? ⟨q + 1, k * 10 + 3, none⟩ = some (.int .u32 0) := hat 3 (by omega)
      have y1 : wr.cell? ⟨q + 1, k * 10 + 8, none⟩ = some (.int .u8 0) := hat 8 (by omega)
      have HS := Lib.hid hst
      have HX1 := Lib.hid x1
      have HY1 := Lib.hid y1
      have HY2 := Lib.hid y2
      have HY3 := Lib.hid y3
      clear hat hc0 hc1
      by_cases hneg : lk zs k = -1
      · have z2 := hst.1.free (k * 10 + 2)
        have z3 := hst.1.free (k * 10 + 3)
        have z1 := hst.1.free (k * 10 + 8)
        have HN : Hid (St w zs ks n q (k + 1) (((wr.setCell ⟨q + 1, k * 10 + 2, none⟩ (.int .u32 4294967295)).setCell ⟨q + 1, k * 10 + 3, none⟩ (.int .u32 4294967295)).setCell ⟨q + 1, k * 10 + 8, none⟩ (.int .u8 ((ks.getD k (-1)).toNat : Int)))) := Lib.hid (HS.out.next (Kept.refl _) hlt HQ.out inv (refOf_inv hneg) _ rfl _ _ rfl rfl)
        have e1 : ((-1 : Int) == -1) = true := rfl
        rw [hneg] at x0
        clear hst hlk hneg
        generalize (ks.getD k (-1)).toNat = kd at *
        go_wp2_with fail
        have HRR : Hid (∃ r : Nat, r ≤ n ∧ Value.int .i64 ((k : Int) + 1) = .int .i64 (r : Int) ∧ St w zs ks n q r (((wr.setCell ⟨q + 1, k * 10 + 2, none⟩ (.int .u32 4294967295)).setCell ⟨q + 1, k * 10 + 3, none⟩ (.int .u32 4294967295)).setCell ⟨q + 1, k * 10 + 8, none⟩ (.int .u8 (kd : Int)))) := Lib.hid ⟨k + 1, by omega, by go_num, HN.out⟩
        go_roundw
        case rel => first | exact HRR.out | ((repeat apply Exists.intro); exact ⟨HRR.out, rfl⟩)
        case measure => simp [intOf]; omega
      · have h2 := hlk.resolve_left hneg
        have HP : Hid (refOf (lk zs k) = (0, (lk zs k).toNat)) := Lib.hid (refOf_ne hneg)
        obtain ⟨j, hj⟩ := Int.eq_ofNat_of_zero_le h2.1
        rw [hj, Int.toNat_natCast] at HP
        have HPP : Hid (refOf (lk zs k) = (0, j)) := by rw [hj]; exact HP
        rw [hj] at x0 h2
        have e1 : ((j : Int) == -1) = false := by simp
        have W32 : IntKind.u32.wrap (j : Int) = (j : Int) := by rw [IntKind.wrap_u32]; omega
        clear hst hlk hneg hj HP
        generalize hnm : (ks.getD k (-1)).toNat = kd at *
        have HNM := Lib.hid hnm
        clear hnm
        clear x1 y1 y2 y3
        go_wp2_with fail
        refine (zref (j : Int) wr).mono ?_
        rintro e w1 ⟨rfl, k1⟩
        have HN : Hid (St w zs ks n q (k + 1) (((w1.setCell ⟨q + 1, k * 10 + 2, none⟩ (.int .u32 0)).setCell ⟨q + 1, k * 10 + 3, none⟩ (.int .u32 (j : Int))).setCell ⟨q + 1, k * 10 + 8, none⟩ (.int .u8 (kd : Int)))) := Lib.hid (HS.out.next k1 hlt HQ.out (0, j) HPP.out _ HNM.out _ _ rfl rfl)
        have x1 := k1.cell HX1.out
        have y1 := k1.cell HY1.out
        have y2 := k1.cell HY2.out
        have y3 := k1.cell HY3.out
        have z2 := (HS.out.1.kept k1).free (k * 10 + 2)
        have z3 := (HS.out.1.kept k1).free (k * 10 + 3)
        have z1 := (HS.out.1.kept k1).free (k * 10 + 8)
        clear k1 x0
        go_wp2_with fail
        have HRR : Hid (∃ r : Nat, r ≤ n ∧ Value.int .i64 ((k : Int) + 1) = .int .i64 (r : Int) ∧ St w zs ks n q r (((w1.setCell ⟨q + 1, k * 10 + 2, none⟩ (.int .u32 0)).setCell ⟨q + 1, k * 10 + 3, none⟩ (.int .u32 (j : Int))).setCell ⟨q + 1, k * 10 + 8, none⟩ (.int .u8 (kd : Int)))) := Lib.hid ⟨k + 1, by omega, by go_num, HN.out⟩
        go_roundw
        case rel => first | exact HRR.out | ((repeat apply Exists.intro); exact ⟨HRR.out, rfl⟩)
        case measure => simp [intOf]; omega
    · obtain rfl : k = n := by omega
      have r0 : wr.cell? ⟨q, 0, none⟩ = some (.slice none 0 0) := hst.2.1.cell 0
      have r1 := hst.2.1.free 0
      have r2 := hst.2.1.lt
      have r3 := hst.1.lt
      have HS := Lib.hid hst
      clear hst
      go_wp2_with fail
      have hs := HS.out
      have hwq := HQ.out
      have hcell : ((wr.setCell ⟨q, 0, none⟩ (.slice (some ⟨wr.heap.size, 0, none⟩) 1 1)).alloc (.cells #[.slice (some ⟨q + 1, 0, none⟩) k k] 56)).cell? ⟨q, 0, none⟩ = some (.slice (some ⟨wr.heap.size, 0, none⟩) 1 1) := ((hs.2.1.set 0 (.slice (some ⟨wr.heap.size, 0, none⟩) 1 1)).alloc _).cell 0
      refine bodyPost_ret (v := mapV wr.heap.size 1) (by simp [results, Tryd.results13, go_sem, mapV, hcell]) rfl ?_
      refine ⟨wr.heap.size, q + 1, rfl, hs.2.2.size, by omega, ⟨?_, fun s hs2 => ?_, fun s t h1 h2 _ => by omega, by omega, fun s => by unfold tab; rw [upTo_length]; omega⟩, (hs.2.2.setCell (by show w.heap.size ≤ q; omega) _).alloc _⟩
      · have e : rows 1 (fun _ => q + 1) (tab zs ks k) = [.slice (some ⟨q + 1, 0, none⟩) k k] := by simp [rows, tab, upTo_length]
        rw [e]
        have hb := Blk.new (wr.setCell ⟨q, 0, none⟩ (.slice (some ⟨wr.heap.size, 0, none⟩) 1 1)) 56 [.slice (some ⟨q + 1, 0, none⟩) k k]
        have hsz : (wr.setCell ⟨q, 0, none⟩ (.slice (some ⟨wr.heap.size, 0, none⟩) 1 1)).heap.size = wr.heap.size := by simp [World.setCell]
        rw [hsz] at hb
        exact hb
      · exact (hs.1.far (by show q + 1 ≠ q; omega) _).alloc _
end Go.Proofs.YtcndjkndmmcagaaDoor.mp
