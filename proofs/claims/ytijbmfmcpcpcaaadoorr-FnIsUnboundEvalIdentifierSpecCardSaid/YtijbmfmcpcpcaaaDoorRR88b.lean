/-
  More contracts of the n011_88 helpers over this seat's program: the maker of the symbol map, the root, the expressions.
  Conditions: at most 65536 symbols, links to earlier symbols alone.
-/
import Derived.Test.YtijbmfmcpcpcaaaDoorRR88
namespace Go.Proofs.YtijbmfmcpcpcaaaDoorR.r88
open Go.ChangeShapes Go.WideShapes Go.ChangeAt Go.RowKit
open kit chain arena lk syms unb plan69

def mkS (ss : List ByteArray) (ks zs : List Int) (i : Nat) : Sym := ⟨ss.getD i ByteArray.empty, (refOf (linkOf zs i)).1, (refOf (linkOf zs i)).2, 0, 0, (ks.getD i (-1)).toNat⟩
def upS (ss : List ByteArray) (ks zs : List Int) (n k : Nat) : List Sym := (List.range n).map fun j => if j < k then mkS ss ks zs j else zeroSym
section
variable (ss : List ByteArray) (ks zs : List Int)
theorem upS_length (n k : Nat) : (upS ss ks zs n k).length = n := by simp [upS]
theorem upS_at {n k : Nat} (h : k < n) : (upS ss ks zs n k).getD k zeroSym = zeroSym := by simp [upS, h]
theorem upS_set {n k : Nat} (h : k < n) : (upS ss ks zs n k).set k (mkS ss ks zs k) = upS ss ks zs n (k + 1) := by
  apply List.ext_getElem?
  intro j
  by_cases hj : k = j
  · subst hj
    rw [List.getElem?_set_self (by rw [upS_length]; exact h)]
    simp [upS, h]
  · rw [List.getElem?_set_ne hj]
    simp only [upS, List.getElem?_map]
    by_cases hjn : j < n
    · rw [List.getElem?_range hjn]
      simp only [Option.map_some]
      by_cases hk : j < k
      · rw [if_pos hk, if_pos (by omega)]
      · rw [if_neg hk, if_neg (by omega)]
    · simp [hjn]
theorem upS_zero (n : Nat) : upS ss ks zs n 0 = List.replicate n zeroSym := by
  apply List.ext_getElem?
  intro j
  simp only [upS, List.getElem?_map, List.getElem?_replicate]
  by_cases h : j < n <;> simp [h]
theorem symAt_upS {n i : Nat} (h : i < n) : symAt (fun _ => upS ss ks zs n n) (0, i) = mkS ss ks zs i := by simp [symAt, upS, h]
theorem lnk_upS {n i : Nat} (h : i < n) : lnk (fun _ => upS ss ks zs n n) (0, i) = refOf (linkOf zs i) := by
  unfold lnk
  rw [symAt_upS ss ks zs h]
  rfl
theorem chain_upS (n : Nat) : ∀ i, i < n → ∃ d, Chain 1 (fun _ => upS ss ks zs n n) d (0, i) (0, rootOf zs i) := by
  intro i
  induction i using Nat.strongRecOn with
  | ind i ih =>
    intro h
    have hv : Valid 1 (fun _ => upS ss ks zs n n) (0, i) := ⟨by omega, by rw [upS_length]; exact h⟩
    rcases hl : linkOf zs i with _ | j
    · exact ⟨0, hv, by rw [lnk_upS ss ks zs h, hl]; rfl, by rw [root_none hl]⟩
    · have hj := linkOf_lt hl
      obtain ⟨d, hd⟩ := ih j hj (by omega)
      refine ⟨d + 1, hv, ?_, ?_⟩
      · rw [lnk_upS ss ks zs h, hl]
        intro e
        have := congrArg Prod.fst e
        simp [refOf, inv] at this
      · rw [lnk_upS ss ks zs h, hl, root_some hl]
        exact hd
end

/-- under the guard a link is none exactly when it is negative -/
theorem link_neg {zs : List Int} {k : Nat} (h : zs.getD k (-1) < 0) : linkOf zs k = none := by
  unfold linkOf; rw [if_neg (by omega)]
theorem link_pos {zs : List Int} {k : Nat} (h0 : 0 ≤ zs.getD k (-1)) (h : zs.getD k (-1) < (k : Int)) : linkOf zs k = some (zs.getD k (-1)).toNat := by
  unfold linkOf; rw [if_pos ⟨h0, h⟩]

def StS (w : World) (ss : List ByteArray) (ks zs : List Int) (n q k : Nat) (wr : World) : Prop := Blk wr (q + 1) 130 (cellsOf (upS ss ks zs n k)) ∧ Blk wr q 31 [.slice none 0 0] ∧ Kept w wr
/-- four fields of a new symbol written, the name first -/
theorem fillS (l : List Sym) (k : Nat) (nm : ByteArray) (p : Ref) (kd : Nat) (hk : k < l.length) (hz : l.getD k zeroSym = zeroSym) :
    ((((cellsOf l).set (k * 10 + 1) (.string nm)).set (k * 10 + 8) (.int .u8 (kd : Int))).set (k * 10 + 2) (.int .u32 (p.1 : Int))).set (k * 10 + 3) (.int .u32 (p.2 : Int)) = cellsOf (l.set k ⟨nm, p.1, p.2, 0, 0, kd⟩) := by
  have g : ∀ y : Sym, (l.set k y).getD k zeroSym = y := fun y => by simp [hk]
  rw [cellsOf_set l k 1 _ ⟨nm, 0, 0, 0, 0, 0⟩ hk (by omega) (by rw [hz]; rfl)]
  rw [cellsOf_set _ k 8 _ ⟨nm, 0, 0, 0, 0, kd⟩ (by simpa using hk) (by omega) (by rw [g]; rfl)]
  rw [List.set_set, cellsOf_set _ k 2 _ ⟨nm, p.1, 0, 0, 0, kd⟩ (by simpa using hk) (by omega) (by rw [g]; rfl)]
  rw [List.set_set, cellsOf_set _ k 3 _ ⟨nm, p.1, p.2, 0, 0, kd⟩ (by simpa using hk) (by omega) (by rw [g]; rfl), List.set_set]
theorem StS.next {w : World} {ss : List ByteArray} {ks zs : List Int} {n q k : Nat} {wr : World} (h : StS w ss ks zs n q k wr) (hk : k < n) (hq : w.heap.size = q) (kd : Int) (hkd : ks.getD k (-1) = kd) (h0 : 0 ≤ kd) (p : Ref) (hp : refOf (linkOf zs k) = p) (nm : ByteArray) (hnm : ss.getD k ByteArray.empty = nm) (a b : Int) (ha : a = (p.1 : Int)) (hb : b = (p.2 : Int)) :
    StS w ss ks zs n q (k + 1) ((((wr.setCell ⟨q + 1, k * 10 + 1, none⟩ (.string nm)).setCell ⟨q + 1, k * 10 + 8, none⟩ (.int .u8 kd)).setCell ⟨q + 1, k * 10 + 2, none⟩ (.int .u32 a)).setCell ⟨q + 1, k * 10 + 3, none⟩ (.int .u32 b)) := by
  obtain ⟨h1, h2, h3⟩ := h
  subst ha hb
  refine ⟨?_, ?_, ?_⟩
  · have := (((h1.set (k * 10 + 1) (.string nm)).set (k * 10 + 8) (.int .u8 kd)).set (k * 10 + 2) (.int .u32 (p.1 : Int))).set (k * 10 + 3) (.int .u32 (p.2 : Int))
    have e : kd = ((kd.toNat : Nat) : Int) := by omega
    rw [e, fillS _ k nm p kd.toNat (by rw [upS_length]; exact hk) (upS_at ss ks zs hk)] at this
    rw [← upS_set ss ks zs hk]
    have e2 : mkS ss ks zs k = ⟨nm, p.1, p.2, 0, 0, kd.toNat⟩ := by unfold mkS; rw [hkd, hp, hnm]
    rw [e2]
    rw [e]
    exact this
  · have hne : q ≠ q + 1 := by omega
    exact (((h2.far hne _).far hne _).far hne _).far hne _
  · have hle : w.heap.size ≤ q + 1 := by omega
    exact (((h3.setCell hle _).setCell hle _).setCell hle _).setCell hle _

def BuiltS (w : World) (ss : List ByteArray) (ks zs : List Int) (n : Nat) (e : Ending) (w' : World) : Prop :=
  ∃ g b, e = .returned (mapV g 1) ∧ w.heap.size ≤ g ∧ w.heap.size ≤ b ∧ Arena w' g (fun _ => b) 1 (fun _ => upS ss ks zs n n) ∧ Kept w w'

set_option maxRecDepth 100000 in
set_option maxHeartbeats 4000000 in
theorem build20 (A0 A1 A2 : Option Addr) (n c0 c1 c2 : Nat) (ss : List ByteArray) (ks zs : List Int) (w : World) (h0 : Strs w A0 n ss) (h1 : Ints .u8 w A1 n ks) (h2 : Ints .i32 w A2 n zs)
    (hb : ∀ j, j < n → -1 ≤ zs.getD j (-1) ∧ zs.getD j (-1) < (j : Int)) (hk : ∀ j, j < n → 0 ≤ ks.getD j (-1)) (hn : n ≤ 65536) :
    Calls Tryd.prog 20 #[.slice A0 n c0, .slice A1 n c1, .slice A2 n c2] w (BuiltS w ss ks zs n) := by
  have HB := Lib.hid hb
  have HK := Lib.hid hk
  have H0 := Lib.hid h0
  have H1 := Lib.hid h1
  have H2 := Lib.hid h2
  obtain ⟨C, hC, hmk⟩ := make n (by omega)
  have HC := Lib.hid hC
  clear h0 h1 h2 hb hk hC
  go_enter Tryd.func20, Tryd.ntmps20
  go_wp2_with fail
  generalize hq : w.heap.size = q at *
  have HQ := Lib.hid hq
  clear hq
  have HST : Hid (StS w ss ks zs n q 0 ((w.alloc (.cells #[.slice none 0 0] 31)).alloc (.cells C 130))) := by
    refine Lib.hid ⟨?_, ?_, ((Kept.refl _).alloc _).alloc _⟩
    · have e : C = (cellsOf (upS ss ks zs n 0)).toArray := by rw [← Array.toList_inj, HC.out, upS_zero]
      have := Blk.new (w.alloc (.cells #[.slice none 0 0] 31)) 130 (cellsOf (upS ss ks zs n 0))
      rw [← e] at this
      rw [← HQ.out]
      simpa using this
    · rw [← HQ.out]; exact (Blk.new w 31 [.slice none 0 0]).alloc _
  generalize (w.alloc (.cells #[.slice none 0 0] 31)).alloc (.cells C 130) = wa at *
  clear hmk HC
  go_loopw [9] (fun t wr => ∃ k : Nat, k ≤ n ∧ t = .int .i64 (k : Int) ∧ StS w ss ks zs n q k wr) (fun t _ => n - (intOf t).toNat)
  case atStart => exact ⟨0, by omega, rfl, HST.out⟩
  case round =>
    obtain ⟨k, hk, rfl, hst⟩ := hrel
    by_cases hlt : k < n
    · obtain ⟨b0, o0, rfl, hb0, hc0⟩ := H0.out.2 (by omega)
      obtain ⟨b1, o1, rfl, hb1, hc1⟩ := H1.out.2 (by omega)
      obtain ⟨b2, o2, rfl, hb2, hc2⟩ := H2.out.2 (by omega)
      have x0 := hst.2.2.cell (hc0 k hlt)
      have x1 := hst.2.2.cell (hc1 k hlt)
      have x2 := hst.2.2.cell (hc2 k hlt)
      obtain ⟨l0, l1⟩ := HB.out k hlt
      have hkd := HK.out k hlt
      have hki : (k : Int) < (n : Int) := by omega
      have n0 : b0 < q := by have := HQ.out; omega
      have n1 : b1 < q := by have := HQ.out; omega
      have n2 : b2 < q := by have := HQ.out; omega
      have hat := fun i (hi : i < 10) => (hst.1.cell (k * 10 + i)).trans ((cellsOf_at _ k i (by rw [upS_length]; exact hlt) hi).trans (by rw [upS_at ss ks zs hlt]))
      have y8 : wr.cell? ⟨q + 1, k * 10 + 8, none⟩ = some (.int .u8 0) := hat 8 (by omega)
      have y2 : wr.cell? ⟨q + 1, k * 10 + 2, none⟩ = some (.int .u32 0) := hat 2 (by omega)
      have y3 : wr.cell? ⟨q + 1, k * 10 + 3, none⟩ = some (.int .u32 0) := hat 3 (by omega)
      have y1 : wr.cell? ⟨q + 1, k * 10 + 1, none⟩ = some (.string ⟨#[]⟩) := hat 1 (by omega)
      have z8 := hst.1.free (k * 10 + 8)
      have z2 := hst.1.free (k * 10 + 2)
      have z3 := hst.1.free (k * 10 + 3)
      have z1 := hst.1.free (k * 10 + 1)
      have HS := Lib.hid hst
      clear hat hc0 hc1 hc2 hst
      by_cases hneg : zs.getD k (-1) < 0
      · have HN : Hid (StS w ss ks zs n q (k + 1) ((((wr.setCell ⟨q + 1, k * 10 + 1, none⟩ (.string (ss.getD k ByteArray.empty))).setCell ⟨q + 1, k * 10 + 8, none⟩ (.int .u8 (ks.getD k (-1)))).setCell ⟨q + 1, k * 10 + 2, none⟩ (.int .u32 4294967295)).setCell ⟨q + 1, k * 10 + 3, none⟩ (.int .u32 4294967295))) := Lib.hid (HS.out.next hlt HQ.out _ rfl hkd inv (by rw [link_neg hneg]; rfl) _ rfl _ _ rfl rfl)
        generalize ss.getD k ByteArray.empty = nm at *
        generalize ks.getD k (-1) = kd at *
        generalize zs.getD k (-1) = lz at *
        go_wp2_with fail
        have HRR : Hid (∃ r : Nat, r ≤ n ∧ Value.int .i64 ((k : Int) + 1) = .int .i64 (r : Int) ∧ StS w ss ks zs n q r ((((wr.setCell ⟨q + 1, k * 10 + 1, none⟩ (.string nm)).setCell ⟨q + 1, k * 10 + 8, none⟩ (.int .u8 kd)).setCell ⟨q + 1, k * 10 + 2, none⟩ (.int .u32 4294967295)).setCell ⟨q + 1, k * 10 + 3, none⟩ (.int .u32 4294967295))) := Lib.hid ⟨k + 1, by omega, by go_num, HN.out⟩
        go_roundw
        case rel => first | exact HRR.out | ((repeat apply Exists.intro); exact ⟨HRR.out, rfl⟩)
        case measure => simp [intOf]; omega
      · have HN : Hid (StS w ss ks zs n q (k + 1) ((((wr.setCell ⟨q + 1, k * 10 + 1, none⟩ (.string (ss.getD k ByteArray.empty))).setCell ⟨q + 1, k * 10 + 8, none⟩ (.int .u8 (ks.getD k (-1)))).setCell ⟨q + 1, k * 10 + 2, none⟩ (.int .u32 0)).setCell ⟨q + 1, k * 10 + 3, none⟩ (.int .u32 (zs.getD k (-1))))) := Lib.hid (HS.out.next hlt HQ.out _ rfl hkd (0, (zs.getD k (-1)).toNat) (by rw [link_pos (by omega) l1]; rfl) _ rfl _ _ rfl (by show zs.getD k (-1) = (((zs.getD k (-1)).toNat : Nat) : Int); omega))
        generalize ss.getD k ByteArray.empty = nm at *
        generalize ks.getD k (-1) = kd at *
        generalize zs.getD k (-1) = lz at *
        go_wp2_with fail
        have HRR : Hid (∃ r : Nat, r ≤ n ∧ Value.int .i64 ((k : Int) + 1) = .int .i64 (r : Int) ∧ StS w ss ks zs n q r ((((wr.setCell ⟨q + 1, k * 10 + 1, none⟩ (.string nm)).setCell ⟨q + 1, k * 10 + 8, none⟩ (.int .u8 kd)).setCell ⟨q + 1, k * 10 + 2, none⟩ (.int .u32 0)).setCell ⟨q + 1, k * 10 + 3, none⟩ (.int .u32 lz))) := Lib.hid ⟨k + 1, by omega, by go_num, HN.out⟩
        go_roundw
        case rel => first | exact HRR.out | ((repeat apply Exists.intro); exact ⟨HRR.out, rfl⟩)
        case measure => simp [intOf]; omega
    · obtain rfl : k = n := by omega
      have r0 : wr.cell? ⟨q, 0, none⟩ = some (.slice none 0 0) := hst.2.1.cell 0
      have r1 := hst.2.1.free 0
      have r2 := hst.2.1.lt
      have r3 := hst.1.lt
      have HS := Lib.hid hst
      clear hst
      go_wp2_with fail
      have hs := HS.out
      have hwq := HQ.out
      have hcell : ((wr.setCell ⟨q, 0, none⟩ (.slice (some ⟨wr.heap.size, 0, none⟩) 1 1)).alloc (.cells #[.slice (some ⟨q + 1, 0, none⟩) k k] 124)).cell? ⟨q, 0, none⟩ = some (.slice (some ⟨wr.heap.size, 0, none⟩) 1 1) := ((hs.2.1.set 0 (.slice (some ⟨wr.heap.size, 0, none⟩) 1 1)).alloc _).cell 0
      refine bodyPost_ret (v := mapV wr.heap.size 1) (by simp [results, Tryd.results20, go_sem, mapV, hcell]) rfl ?_
      refine ⟨wr.heap.size, q + 1, rfl, hs.2.2.size, by omega, ⟨?_, fun s hs2 => ?_, fun s t h1 h2 _ => by omega, by omega, fun s => by rw [upS_length]; omega⟩, (hs.2.2.setCell (by show w.heap.size ≤ q; omega) _).alloc _⟩
      · have e : rows 1 (fun _ => q + 1) (fun _ => upS ss ks zs k k) = [.slice (some ⟨q + 1, 0, none⟩) k k] := by simp [rows, upS_length]
        rw [e]
        have hb := Blk.new (wr.setCell ⟨q, 0, none⟩ (.slice (some ⟨wr.heap.size, 0, none⟩) 1 1)) 124 [.slice (some ⟨q + 1, 0, none⟩) k k]
        have hsz : (wr.setCell ⟨q, 0, none⟩ (.slice (some ⟨wr.heap.size, 0, none⟩) 1 1)).heap.size = wr.heap.size := by simp [World.setCell]
        rw [hsz] at hb
        exact hb
      · exact (hs.1.far (by show q + 1 ≠ q; omega) _).alloc _

set_option maxHeartbeats 1000000 in
theorem root25 (A : Option Addr) (n c i : Nat) (zs : List Int) (w : World) (h : Ints .i32 w A n zs) (hb : ∀ j, j < n → -1 ≤ zs.getD j (-1) ∧ zs.getD j (-1) < (j : Int)) (hi : i < n) (hn : n ≤ 65536) :
    Calls Tryd.prog 25 #[.slice A n c, .int .i32 (i : Int)] w fun e w' => e = .returned (.int .i32 ((rootOf zs i : Nat) : Int)) ∧ w = w' := by
  obtain ⟨b, off, rfl, hlt, hc⟩ := h.2 (by omega)
  have HC := Lib.hid hc
  have HB := Lib.hid hb
  clear h hb hc
  go_enter Tryd.func25, Tryd.ntmps25
  go_wp2_with fail
  go_loop [5] (fun t => ∃ k : Nat, k ≤ i ∧ t = .int .i32 (k : Int) ∧ Hid (rootOf zs k = rootOf zs i)) (fun t => (intOf t).toNat)
  case atStart => exact ⟨i, Nat.le_refl _, rfl, Lib.hid rfl⟩
  case round =>
    obtain ⟨k, hk, rfl, HR⟩ := hrel
    have x0 := HC.out k (by omega)
    obtain ⟨l0, l1⟩ := HB.out k (by omega)
    have hki : (k : Int) < (n : Int) := by omega
    by_cases hneg : zs.getD k (-1) < 0
    · have HQ := Lib.hid (link_neg hneg)
      generalize zs.getD k (-1) = lz at *
      go_wp2_with fail
      go_ret
      exact ⟨by rw [← HR.out, root_none HQ.out]; rfl, rfl⟩
    · have HQ := Lib.hid (link_pos (by omega) l1)
      obtain ⟨j, hj⟩ := Int.eq_ofNat_of_zero_le (show 0 ≤ zs.getD k (-1) by omega)
      have HJ : Hid (rootOf zs j = rootOf zs i) := by
        have h1 := HQ.out
        rw [hj] at h1
        exact Lib.hid (by rw [← HR.out, root_some h1]; rfl)
      rw [hj] at x0 l1 hneg l0
      clear HQ hj
      have HRR : Hid (∃ r : Nat, r ≤ i ∧ Value.int .i32 (j : Int) = .int .i32 (r : Int) ∧ Hid (rootOf zs r = rootOf zs i)) := Lib.hid ⟨j, by omega, rfl, HJ⟩
      go_wp2_with fail
      go_round
      case rel => first | exact HRR.out | ((repeat apply Exists.intro); exact ⟨HRR.out, rfl⟩)
      case measure => simp [intOf]; omega

def Expr (w : World) (u : TypeId) (t : TypeId) (cs : List Value) (e : Ending) (w' : World) : Prop :=
  ∃ ge, e = .returned (.agg #[.iface u (.pointer (some ⟨ge, 0, none⟩)), .int .i32 0]) ∧ w.heap.size ≤ ge ∧ Blk w' ge t cs ∧ Kept w w'
theorem ident21 (a b : Int) (w : World) : Calls Tryd.prog 21 #[.agg #[.int .u32 a, .int .u32 b]] w (Expr w 33 37 [.int .u32 a, .int .u32 b, .bool false, .bool false, .bool false]) := by
  go_enter Tryd.func21, Tryd.ntmps21
  go_wp2_with fail
  refine bodyPost_ret (v := .agg #[.iface 33 (.pointer (some ⟨w.heap.size + 1 + 1, 0, none⟩)), .int .i32 0]) (by simp [results, Tryd.results21, go_sem]) rfl ⟨_, rfl, by omega, ?_, (((Kept.refl _).alloc _).alloc _).alloc _⟩
  have := Blk.new ((w.alloc (.cells #[.int .u32 a, .int .u32 b] 35)).alloc (.cells #[.iface 33 (.pointer (some ⟨w.heap.size + 1 + 1, 0, none⟩)), .int .i32 0] 43)) 37 [.int .u32 a, .int .u32 b, .bool false, .bool false, .bool false]
  simpa using this
def ExprK (w : World) (u : TypeId) (e : Ending) (w' : World) : Prop := ∃ x, e = .returned (.agg #[.iface u x, .int .i32 0]) ∧ Kept w w'
theorem import22 (a b : Int) (w : World) : Calls Tryd.prog 22 #[.agg #[.int .u32 a, .int .u32 b]] w (ExprK w 66) := by
  go_enter Tryd.func22, Tryd.ntmps22
  go_wp2_with fail
  exact bodyPost_ret (v := .agg #[.iface 66 (.pointer (some ⟨w.heap.size + 1 + 1, 0, none⟩)), .int .i32 0]) (by simp [results, Tryd.results22, go_sem]) rfl ⟨_, rfl, (((Kept.refl _).alloc _).alloc _).alloc _⟩
theorem null23 (w : World) : Calls Tryd.prog 23 #[] w (ExprK w 132) := by
  go_enter Tryd.func23, Tryd.ntmps23
  go_wp2_with fail
  exact bodyPost_ret (v := .agg #[.iface 132 (.pointer (some ⟨w.heap.size + 1, 0, none⟩)), .int .i32 0]) (by simp [results, Tryd.results23, go_sem]) rfl ⟨_, rfl, ((Kept.refl _).alloc _).alloc _⟩
end Go.Proofs.YtijbmfmcpcpcaaaDoorR.r88
