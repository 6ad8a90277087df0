/-
  The law file n011_69's maker of a symbol map over this seat's program: one source whose symbols have the given kinds, links and names.
  Conditions: at most 65536 symbols.
-/
import Derived.Test.YtijbmfmcpcpcaaaDoorRArena
import Derived.Test.YtijbmfmcpcpcaaaDoorRLk
import Derived.OwnWalk
import Derived.Deep.OwnRows
namespace Go.Proofs.YtijbmfmcpcpcaaaDoorR.syms
open Go.ChangeShapes Go.WideShapes Go.ChangeAt Go.RowKit
open kit chain arena lk

/-- a slice of bools that came in, cell by cell -/
def Bools (w : World) (A : Option Addr) (n : Nat) (bs : List Bool) : Prop :=
  bs.length = n ∧ (0 < n → ∃ b off, A = some ⟨b, off, none⟩ ∧ b < w.heap.size ∧ ∀ i, i < n → w.cell? ⟨b, off + i, none⟩ = some (.bool (bs.getD i false)))
theorem Bools.kept {w w2 : World} {A : Option Addr} {n : Nat} {bs : List Bool} (h : Bools w A n bs) (hk : Kept w w2) : Bools w2 A n bs :=
  ⟨h.1, fun h0 => by
    obtain ⟨b, off, e, hlt, hc⟩ := h.2 h0
    exact ⟨b, off, e, Nat.lt_of_lt_of_le hlt hk.size, fun i hi => hk.cell (hc i hi)⟩⟩

def nameOf (b : Bool) : ByteArray := if b then ⟨#[101, 118, 97, 108]⟩ else ⟨#[120]⟩
def refOf (o : Option Nat) : Ref := match o with | some j => (0, j) | none => inv
def mk (ks zs : List Int) (bs : List Bool) (i : Nat) : Sym := ⟨nameOf (bs.getD i false), (refOf (linkOf zs i)).1, (refOf (linkOf zs i)).2, 0, 0, (ks.getD i (-1)).toNat⟩
def upTo (ks zs : List Int) (bs : List Bool) (n k : Nat) : List Sym := (List.range n).map fun j => if j < k then mk ks zs bs j else zeroSym
theorem upTo_length (ks zs : List Int) (bs : List Bool) (n k : Nat) : (upTo ks zs bs n k).length = n := by simp [upTo]
theorem upTo_at (ks zs : List Int) (bs : List Bool) {n k : Nat} (h : k < n) : (upTo ks zs bs n k).getD k zeroSym = zeroSym := by
  simp [upTo, h]
theorem upTo_set (ks zs : List Int) (bs : List Bool) {n k : Nat} (h : k < n) : (upTo ks zs bs n k).set k (mk ks zs bs k) = upTo ks zs bs n (k + 1) := by
  apply List.ext_getElem?
  intro j
  by_cases hj : k = j
  · subst hj
    rw [List.getElem?_set_self (by rw [upTo_length]; exact h)]
    simp [upTo, h]
  · rw [List.getElem?_set_ne hj]
    simp only [upTo, List.getElem?_map]
    by_cases hjn : j < n
    · rw [List.getElem?_range hjn]
      simp only [Option.map_some]
      by_cases hk : j < k
      · rw [if_pos hk, if_pos (by omega)]
      · rw [if_neg hk, if_neg (by omega)]
    · simp [hjn]
theorem upTo_zero (ks zs : List Int) (bs : List Bool) (n : Nat) : upTo ks zs bs n 0 = List.replicate n zeroSym := by
  apply List.ext_getElem?
  intro j
  simp only [upTo, List.getElem?_map, List.getElem?_replicate]
  by_cases h : j < n <;> simp [h]

/-- four fields of a new symbol written -/
theorem fill (l : List Sym) (k : Nat) (nm : ByteArray) (p : Ref) (kd : Nat) (hk : k < l.length) (hz : l.getD k zeroSym = zeroSym) :
    ((((cellsOf l).set (k * 10 + 8) (.int .u8 (kd : Int))).set (k * 10 + 2) (.int .u32 (p.1 : Int))).set (k * 10 + 3) (.int .u32 (p.2 : Int))).set (k * 10 + 1) (.string nm) = cellsOf (l.set k ⟨nm, p.1, p.2, 0, 0, kd⟩) := by
  have g : ∀ y : Sym, (l.set k y).getD k zeroSym = y := fun y => by simp [hk]
  rw [cellsOf_set l k 8 _ ⟨⟨#[]⟩, 0, 0, 0, 0, kd⟩ hk (by omega) (by rw [hz]; rfl)]
  rw [cellsOf_set _ k 2 _ ⟨⟨#[]⟩, p.1, 0, 0, 0, kd⟩ (by simpa using hk) (by omega) (by rw [g]; rfl)]
  rw [List.set_set, cellsOf_set _ k 3 _ ⟨⟨#[]⟩, p.1, p.2, 0, 0, kd⟩ (by simpa using hk) (by omega) (by rw [g]; rfl)]
  rw [List.set_set, cellsOf_set _ k 1 _ ⟨nm, p.1, p.2, 0, 0, kd⟩ (by simpa using hk) (by omega) (by rw [g]; rfl), List.set_set]

theorem info130 : (Tryd.prog.info? 130).map (fun i => (i.zero, i.size, i.bytes)) = some (some (.agg (cells1 zeroSym).toArray), 10, 48) := by kernel_rfl
theorem made (n : Nat) : (madeCells (cells1 zeroSym).toArray (n * 10)).toList = cellsOf (List.replicate n zeroSym) := by
  apply List.ext_getElem?
  intro i
  have hsz : (cells1 zeroSym).toArray.size = 10 := rfl
  by_cases h : i < n * 10
  · have hi : i = (i / 10) * 10 + i % 10 := by omega
    have h1 : (cellsOf (List.replicate n zeroSym))[i]? = (cells1 zeroSym)[i % 10]? := by
      conv => lhs; rw [hi]
      rw [cellsOf_at _ _ _ (by simp; omega) (Nat.mod_lt _ (by omega))]
      have : i / 10 < n := by omega
      simp [this]
    rw [h1]
    have hm : i % 10 < 10 := Nat.mod_lt _ (by omega)
    simp only [madeCells, hsz, Array.toList_map, List.getElem?_map, Array.toList_range, List.getElem?_range h, Option.map_some]
    rw [getElem!_pos (cells1 zeroSym).toArray (i % 10) (by rw [hsz]; exact hm)]
    have hl : i % 10 < (cells1 zeroSym).length := hm
    rw [List.getElem?_eq_getElem hl]
    rfl
  · rw [List.getElem?_eq_none (by rw [Array.length_toList, size_madeCells]; omega), List.getElem?_eq_none (by rw [cellsOf_length]; simp; omega)]
theorem make (n : Nat) (hn : n ≤ 1048576) : ∃ C : Array Value, C.toList = cellsOf (List.replicate n zeroSym) ∧ ∀ w : World, (Instr.makeSlice 124 (.int .i64 (n : Int)) (.int .i64 (n : Int))).run Tryd.prog w = .ok (.slice (some ⟨w.heap.size, 0, none⟩) n n) (w.alloc (.cells C 130)) := by
  obtain ⟨i, hi, hz, hs, hby⟩ := info_parts info130
  refine ⟨madeCells (cells1 zeroSym).toArray (n * 10), made n, fun w => ?_⟩
  have hb : (i.bytes : Int) * (n : Int) ≤ 281474976710656 := by rw [hby]; omega
  have hr := run_make (P := Tryd.prog) w 124 130 i _ Tryd.underlying124 hi hz .i64 .i64 n n (by omega) (by omega) hb (by omega)
  simp only [Int.toNat_natCast, hs] at hr
  exact hr

def Built (w : World) (ks zs : List Int) (bs : List Bool) (n : Nat) (e : Ending) (w' : World) : Prop :=
  ∃ g b, e = .returned (mapV g 1) ∧ w.heap.size ≤ g ∧ w.heap.size ≤ b ∧ Arena w' g (fun _ => b) 1 (fun _ => upTo ks zs bs n n) ∧ Kept w w'

def St (w : World) (ks zs : List Int) (bs : List Bool) (n q k : Nat) (wr : World) : Prop := Blk wr (q + 1) 130 (cellsOf (upTo ks zs bs n k)) ∧ Blk wr q 31 [.slice none 0 0] ∧ Kept w wr
theorem St.next {w : World} {ks zs : List Int} {bs : List Bool} {n q k : Nat} {wr : World} (h : St w ks zs bs n q k wr) (hk : k < n) (hq : w.heap.size = q) (kd : Int) (hkd : ks.getD k (-1) = kd) (h0 : 0 ≤ kd) (p : Ref) (hp : refOf (linkOf zs k) = p) (nm : ByteArray) (hnm : nameOf (bs.getD k false) = nm) (a b : Int) (ha : a = (p.1 : Int)) (hb : b = (p.2 : Int)) :
    St w ks zs bs n q (k + 1) ((((wr.setCell ⟨q + 1, k * 10 + 8, none⟩ (.int .u8 kd)).setCell ⟨q + 1, k * 10 + 2, none⟩ (.int .u32 a)).setCell ⟨q + 1, k * 10 + 3, none⟩ (.int .u32 b)).setCell ⟨q + 1, k * 10 + 1, none⟩ (.string nm)) := by
  obtain ⟨h1, h2, h3⟩ := h
  subst ha hb
  refine ⟨?_, ?_, ?_⟩
  · have := (((h1.set (k * 10 + 8) (.int .u8 kd)).set (k * 10 + 2) (.int .u32 (p.1 : Int))).set (k * 10 + 3) (.int .u32 (p.2 : Int))).set (k * 10 + 1) (.string nm)
    have e : kd = ((kd.toNat : Nat) : Int) := by omega
    rw [e, fill _ k nm p kd.toNat (by rw [upTo_length]; exact hk) (upTo_at ks zs bs hk)] at this
    rw [← upTo_set ks zs bs hk]
    have e2 : mk ks zs bs k = ⟨nm, p.1, p.2, 0, 0, kd.toNat⟩ := by unfold mk; rw [hkd, hp, hnm]
    rw [e2]
    rw [e]
    exact this
  · have hne : q ≠ q + 1 := by omega
    exact (((h2.far hne _).far hne _).far hne _).far hne _
  · have hle : w.heap.size ≤ q + 1 := by omega
    exact (((h3.setCell hle _).setCell hle _).setCell hle _).setCell hle _

set_option maxRecDepth 100000 in
set_option maxHeartbeats 4000000 in
theorem syms10 (A0 A1 A2 : Option Addr) (n c0 n1 c1 n2 c2 : Nat) (ks zs : List Int) (bs : List Bool) (w : World) (h0 : Ints .u8 w A0 n ks) (h1 : Ints .i32 w A1 n1 zs) (h2 : Bools w A2 n2 bs)
    (hb : ∀ j, -2147483648 ≤ zs.getD j (-1) ∧ zs.getD j (-1) ≤ 2147483647) (hk : ∀ j, j < n → 0 ≤ ks.getD j (-1)) (hn : n ≤ 65536) (hn1 : n1 ≤ 65536) (hn2 : n2 ≤ 65536) :
    Calls Tryd.prog 10 #[.slice A0 n c0, .slice A1 n1 c1, .slice A2 n2 c2] w (Built w ks zs bs n) := by
  have HL := Lib.hid (fun (W : World) (kp : Kept w W) (j : Nat) (hj : j ≤ 1048576) => link47 A1 n1 c1 j zs W (h1.kept kp) hb hj (by omega))
  have HK := Lib.hid hk
  have H0 := Lib.hid h0
  have H2 := Lib.hid h2
  obtain ⟨C, hC, hmk⟩ := make n (by omega)
  have HC := Lib.hid hC
  clear h0 h1 h2 hb hk hC
  go_enter Tryd.func10, Tryd.ntmps10
  go_wp2_with fail
  generalize hq : w.heap.size = q at *
  have HQ := Lib.hid hq
  clear hq
  have HST : Hid (St w ks zs bs n q 0 ((w.alloc (.cells #[.slice none 0 0] 31)).alloc (.cells C 130))) := by
    refine Lib.hid ⟨?_, ?_, ((Kept.refl _).alloc _).alloc _⟩
    · have e : C = (cellsOf (upTo ks zs bs n 0)).toArray := by rw [← Array.toList_inj, HC.out, upTo_zero]
      have := Blk.new (w.alloc (.cells #[.slice none 0 0] 31)) 130 (cellsOf (upTo ks zs bs n 0))
      rw [← e] at this
      rw [← HQ.out]
      simpa using this
    · rw [← HQ.out]; exact (Blk.new w 31 [.slice none 0 0]).alloc _
  generalize (w.alloc (.cells #[.slice none 0 0] 31)).alloc (.cells C 130) = wa at *
  clear hmk HC
  go_loopw [9, 10] (fun t _ wr => ∃ k : Nat, k ≤ n ∧ t = .int .i64 (k : Int) ∧ St w ks zs bs n q k wr) (fun t _ _ => n - (intOf t).toNat)
  case atStart => exact ⟨0, by omega, rfl, HST.out⟩
  case round =>
    obtain ⟨k, hk, rfl, hst⟩ := hrel
    by_cases hlt : k < n
    · obtain ⟨b0, o0, rfl, hb0, hc0⟩ := H0.out.2 (by omega)
      have x0 := hst.2.2.cell (hc0 k hlt)
      have hkd := HK.out k hlt
      have HKD := Lib.hid (rfl : ks.getD k (-1) = ks.getD k (-1))
      have hki : (k : Int) < (n : Int) := by omega
      have hat := fun i (hi : i < 10) => (hst.1.cell (k * 10 + i)).trans ((cellsOf_at _ k i (by rw [upTo_length]; exact hlt) hi).trans (by rw [upTo_at ks zs bs hlt]))
      have y8 : wr.cell? ⟨q + 1, k * 10 + 8, none⟩ = some (.int .u8 0) := hat 8 (by omega)
      have y2 : wr.cell? ⟨q + 1, k * 10 + 2, none⟩ = some (.int .u32 0) := hat 2 (by omega)
      have y3 : wr.cell? ⟨q + 1, k * 10 + 3, none⟩ = some (.int .u32 0) := hat 3 (by omega)
      have y1 : wr.cell? ⟨q + 1, k * 10 + 1, none⟩ = some (.string ⟨#[]⟩) := hat 1 (by omega)
      have z8 := hst.1.free (k * 10 + 8)
      have z2 := hst.1.free (k * 10 + 2)
      have z3 := hst.1.free (k * 10 + 3)
      have z1 := hst.1.free (k * 10 + 1)
      have HS := Lib.hid hst
      clear hat hc0 hst
      generalize hkk : ks.getD k (-1) = kd at *
      have HKK := Lib.hid hkk
      clear hkk HKD
      --ROUND--
      rcases hq2 : linkOf zs k with _ | j
      · have e1 : linkI zs k = -1 := by simp [linkI, hq2]
        have HP : Hid (refOf (linkOf zs k) = inv) := Lib.hid (by rw [hq2]; rfl)
        clear hq2
        by_cases hin2 : k < n2
        · obtain ⟨b2, o2, rfl, hb2, hc2⟩ := H2.out.2 (by omega)
          have xb := HS.out.2.2.cell (hc2 k hin2)
          have hkn2 : (k : Int) < (n2 : Int) := by omega
          have hbq : b2 < q := by have := HQ.out; omega
          clear hc2
          cases hbb : bs.getD k false
          · have HNM : Hid (nameOf (bs.getD k false) = ⟨#[120]⟩) := Lib.hid (by rw [hbb]; rfl)
            have xb2 := xb
            rw [hbb] at xb2
            clear hbb xb
            go_wp2_with fail
            refine (HL.out (wr.setCell ⟨q + 1, k * 10 + 8, none⟩ (.int .u8 kd)) (HS.out.2.2.setCell (by show w.heap.size ≤ q + 1; have := HQ.out; omega) _) k (by omega)).mono ?_
            rintro e w' ⟨rfl, rfl⟩
            rw [e1]
            have HN : Hid (St w ks zs bs n q (k + 1) ((((wr.setCell ⟨q + 1, k * 10 + 8, none⟩ (.int .u8 kd)).setCell ⟨q + 1, k * 10 + 2, none⟩ (.int .u32 4294967295)).setCell ⟨q + 1, k * 10 + 3, none⟩ (.int .u32 4294967295)).setCell ⟨q + 1, k * 10 + 1, none⟩ (.string ⟨#[120]⟩))) := Lib.hid (HS.out.next hlt HQ.out kd HKK.out hkd inv HP.out _ HNM.out _ _ rfl rfl)
            clear e1
            go_wp2_with fail
            have HRR : Hid (∃ r : Nat, r ≤ n ∧ Value.int .i64 ((k : Int) + 1) = .int .i64 (r : Int) ∧ St w ks zs bs n q r ((((wr.setCell ⟨q + 1, k * 10 + 8, none⟩ (.int .u8 kd)).setCell ⟨q + 1, k * 10 + 2, none⟩ (.int .u32 4294967295)).setCell ⟨q + 1, k * 10 + 3, none⟩ (.int .u32 4294967295)).setCell ⟨q + 1, k * 10 + 1, none⟩ (.string ⟨#[120]⟩))) := Lib.hid ⟨k + 1, by omega, by go_num, HN.out⟩
            go_roundw
            case rel => first | exact HRR.out | ((repeat apply Exists.intro); exact ⟨HRR.out, rfl⟩)
            case measure => simp [intOf]; omega
          · have HNM : Hid (nameOf (bs.getD k false) = ⟨#[101, 118, 97, 108]⟩) := Lib.hid (by rw [hbb]; rfl)
            have xb2 := xb
            rw [hbb] at xb2
            clear hbb xb
            go_wp2_with fail
            refine (HL.out (wr.setCell ⟨q + 1, k * 10 + 8, none⟩ (.int .u8 kd)) (HS.out.2.2.setCell (by show w.heap.size ≤ q + 1; have := HQ.out; omega) _) k (by omega)).mono ?_
            rintro e w' ⟨rfl, rfl⟩
            rw [e1]
            have HN : Hid (St w ks zs bs n q (k + 1) ((((wr.setCell ⟨q + 1, k * 10 + 8, none⟩ (.int .u8 kd)).setCell ⟨q + 1, k * 10 + 2, none⟩ (.int .u32 4294967295)).setCell ⟨q + 1, k * 10 + 3, none⟩ (.int .u32 4294967295)).setCell ⟨q + 1, k * 10 + 1, none⟩ (.string ⟨#[101, 118, 97, 108]⟩))) := Lib.hid (HS.out.next hlt HQ.out kd HKK.out hkd inv HP.out _ HNM.out _ _ rfl rfl)
            clear e1
            go_wp2_with fail
            have HRR : Hid (∃ r : Nat, r ≤ n ∧ Value.int .i64 ((k : Int) + 1) = .int .i64 (r : Int) ∧ St w ks zs bs n q r ((((wr.setCell ⟨q + 1, k * 10 + 8, none⟩ (.int .u8 kd)).setCell ⟨q + 1, k * 10 + 2, none⟩ (.int .u32 4294967295)).setCell ⟨q + 1, k * 10 + 3, none⟩ (.int .u32 4294967295)).setCell ⟨q + 1, k * 10 + 1, none⟩ (.string ⟨#[101, 118, 97, 108]⟩))) := Lib.hid ⟨k + 1, by omega, by go_num, HN.out⟩
            go_roundw
            case rel => first | exact HRR.out | ((repeat apply Exists.intro); exact ⟨HRR.out, rfl⟩)
            case measure => simp [intOf]; omega
        · have HNM : Hid (nameOf (bs.getD k false) = ⟨#[120]⟩) := Lib.hid (by rw [show bs.getD k false = false by simp [List.getElem?_eq_none (show bs.length ≤ k by have := H2.out.1; omega)]]; rfl)
          go_wp2_with fail
          refine (HL.out (wr.setCell ⟨q + 1, k * 10 + 8, none⟩ (.int .u8 kd)) (HS.out.2.2.setCell (by show w.heap.size ≤ q + 1; have := HQ.out; omega) _) k (by omega)).mono ?_
          rintro e w' ⟨rfl, rfl⟩
          rw [e1]
          have HN : Hid (St w ks zs bs n q (k + 1) ((((wr.setCell ⟨q + 1, k * 10 + 8, none⟩ (.int .u8 kd)).setCell ⟨q + 1, k * 10 + 2, none⟩ (.int .u32 4294967295)).setCell ⟨q + 1, k * 10 + 3, none⟩ (.int .u32 4294967295)).setCell ⟨q + 1, k * 10 + 1, none⟩ (.string ⟨#[120]⟩))) := Lib.hid (HS.out.next hlt HQ.out kd HKK.out hkd inv HP.out _ HNM.out _ _ rfl rfl)
          clear e1
          go_wp2_with fail
          have HRR : Hid (∃ r : Nat, r ≤ n ∧ Value.int .i64 ((k : Int) + 1) = .int .i64 (r : Int) ∧ St w ks zs bs n q r ((((wr.setCell ⟨q + 1, k * 10 + 8, none⟩ (.int .u8 kd)).setCell ⟨q + 1, k * 10 + 2, none⟩ (.int .u32 4294967295)).setCell ⟨q + 1, k * 10 + 3, none⟩ (.int .u32 4294967295)).setCell ⟨q + 1, k * 10 + 1, none⟩ (.string ⟨#[120]⟩))) := Lib.hid ⟨k + 1, by omega, by go_num, HN.out⟩
          go_roundw
          case rel => first | exact HRR.out | ((repeat apply Exists.intro); exact ⟨HRR.out, rfl⟩)
          case measure => simp [intOf]; omega
      · have e1 : linkI zs k = (j : Int) := by simp [linkI, hq2]
        have HP : Hid (refOf (linkOf zs k) = (0, j)) := Lib.hid (by rw [hq2]; rfl)
        have hjk := linkOf_lt hq2
        clear hq2
        by_cases hin2 : k < n2
        · obtain ⟨b2, o2, rfl, hb2, hc2⟩ := H2.out.2 (by omega)
          have xb := HS.out.2.2.cell (hc2 k hin2)
          have hkn2 : (k : Int) < (n2 : Int) := by omega
          have hbq : b2 < q := by have := HQ.out; omega
          clear hc2
          cases hbb : bs.getD k false
          · have HNM : Hid (nameOf (bs.getD k false) = ⟨#[120]⟩) := Lib.hid (by rw [hbb]; rfl)
            have xb2 := xb
            rw [hbb] at xb2
            clear hbb xb
            go_wp2_with fail
            refine (HL.out (wr.setCell ⟨q + 1, k * 10 + 8, none⟩ (.int .u8 kd)) (HS.out.2.2.setCell (by show w.heap.size ≤ q + 1; have := HQ.out; omega) _) k (by omega)).mono ?_
            rintro e w' ⟨rfl, rfl⟩
            rw [e1]
            have HN : Hid (St w ks zs bs n q (k + 1) ((((wr.setCell ⟨q + 1, k * 10 + 8, none⟩ (.int .u8 kd)).setCell ⟨q + 1, k * 10 + 2, none⟩ (.int .u32 0)).setCell ⟨q + 1, k * 10 + 3, none⟩ (.int .u32 (j : Int))).setCell ⟨q + 1, k * 10 + 1, none⟩ (.string ⟨#[120]⟩))) := Lib.hid (HS.out.next hlt HQ.out kd HKK.out hkd (0, j) HP.out _ HNM.out _ _ rfl rfl)
            clear e1
            go_wp2_with fail
            have HRR : Hid (∃ r : Nat, r ≤ n ∧ Value.int .i64 ((k : Int) + 1) = .int .i64 (r : Int) ∧ St w ks zs bs n q r ((((wr.setCell ⟨q + 1, k * 10 + 8, none⟩ (.int .u8 kd)).setCell ⟨q + 1, k * 10 + 2, none⟩ (.int .u32 0)).setCell ⟨q + 1, k * 10 + 3, none⟩ (.int .u32 (j : Int))).setCell ⟨q + 1, k * 10 + 1, none⟩ (.string ⟨#[120]⟩))) := Lib.hid ⟨k + 1, by omega, by go_num, HN.out⟩
            go_roundw
            case rel => first | exact HRR.out | ((repeat apply Exists.intro); exact ⟨HRR.out, rfl⟩)
            case measure => simp [intOf]; omega
          · have HNM : Hid (nameOf (bs.getD k false) = ⟨#[101, 118, 97, 108]⟩) := Lib.hid (by rw [hbb]; rfl)
            have xb2 := xb
            rw [hbb] at xb2
            clear hbb xb
            go_wp2_with fail
            refine (HL.out (wr.setCell ⟨q + 1, k * 10 + 8, none⟩ (.int .u8 kd)) (HS.out.2.2.setCell (by show w.heap.size ≤ q + 1; have := HQ.out; omega) _) k (by omega)).mono ?_
            rintro e w' ⟨rfl, rfl⟩
            rw [e1]
            have HN : Hid (St w ks zs bs n q (k + 1) ((((wr.setCell ⟨q + 1, k * 10 + 8, none⟩ (.int .u8 kd)).setCell ⟨q + 1, k * 10 + 2, none⟩ (.int .u32 0)).setCell ⟨q + 1, k * 10 + 3, none⟩ (.int .u32 (j : Int))).setCell ⟨q + 1, k * 10 + 1, none⟩ (.string ⟨#[101, 118, 97, 108]⟩))) := Lib.hid (HS.out.next hlt HQ.out kd HKK.out hkd (0, j) HP.out _ HNM.out _ _ rfl rfl)
            clear e1
            go_wp2_with fail
            have HRR : Hid (∃ r : Nat, r ≤ n ∧ Value.int .i64 ((k : Int) + 1) = .int .i64 (r : Int) ∧ St w ks zs bs n q r ((((wr.setCell ⟨q + 1, k * 10 + 8, none⟩ (.int .u8 kd)).setCell ⟨q + 1, k * 10 + 2, none⟩ (.int .u32 0)).setCell ⟨q + 1, k * 10 + 3, none⟩ (.int .u32 (j : Int))).setCell ⟨q + 1, k * 10 + 1, none⟩ (.string ⟨#[101, 118, 97, 108]⟩))) := Lib.hid ⟨k + 1, by omega, by go_num, HN.out⟩
            go_roundw
            case rel => first | exact HRR.out | ((repeat apply Exists.intro); exact ⟨HRR.out, rfl⟩)
            case measure => simp [intOf]; omega
        · have HNM : Hid (nameOf (bs.getD k false) = ⟨#[120]⟩) := Lib.hid (by rw [show bs.getD k false = false by simp [List.getElem?_eq_none (show bs.length ≤ k by have := H2.out.1; omega)]]; rfl)
          go_wp2_with fail
          refine (HL.out (wr.setCell ⟨q + 1, k * 10 + 8, none⟩ (.int .u8 kd)) (HS.out.2.2.setCell (by show w.heap.size ≤ q + 1; have := HQ.out; omega) _) k (by omega)).mono ?_
          rintro e w' ⟨rfl, rfl⟩
          rw [e1]
          have HN : Hid (St w ks zs bs n q (k + 1) ((((wr.setCell ⟨q + 1, k * 10 + 8, none⟩ (.int .u8 kd)).setCell ⟨q + 1, k * 10 + 2, none⟩ (.int .u32 0)).setCell ⟨q + 1, k * 10 + 3, none⟩ (.int .u32 (j : Int))).setCell ⟨q + 1, k * 10 + 1, none⟩ (.string ⟨#[120]⟩))) := Lib.hid (HS.out.next hlt HQ.out kd HKK.out hkd (0, j) HP.out _ HNM.out _ _ rfl rfl)
          clear e1
          go_wp2_with fail
          have HRR : Hid (∃ r : Nat, r ≤ n ∧ Value.int .i64 ((k : Int) + 1) = .int .i64 (r : Int) ∧ St w ks zs bs n q r ((((wr.setCell ⟨q + 1, k * 10 + 8, none⟩ (.int .u8 kd)).setCell ⟨q + 1, k * 10 + 2, none⟩ (.int .u32 0)).setCell ⟨q + 1, k * 10 + 3, none⟩ (.int .u32 (j : Int))).setCell ⟨q + 1, k * 10 + 1, none⟩ (.string ⟨#[120]⟩))) := Lib.hid ⟨k + 1, by omega, by go_num, HN.out⟩
          go_roundw
          case rel => first | exact HRR.out | ((repeat apply Exists.intro); exact ⟨HRR.out, rfl⟩)
          case measure => simp [intOf]; omega
      --END--
    · obtain rfl : k = n := by omega
      have r0 : wr.cell? ⟨q, 0, none⟩ = some (.slice none 0 0) := hst.2.1.cell 0
      have r1 := hst.2.1.free 0
      have r2 := hst.2.1.lt
      have r3 := hst.1.lt
      have HS := Lib.hid hst
      clear hst
      go_wp2_with fail
      have hs := HS.out
      have hwq := HQ.out
      have hcell : ((wr.setCell ⟨q, 0, none⟩ (.slice (some ⟨wr.heap.size, 0, none⟩) 1 1)).alloc (.cells #[.slice (some ⟨q + 1, 0, none⟩) k k] 124)).cell? ⟨q, 0, none⟩ = some (.slice (some ⟨wr.heap.size, 0, none⟩) 1 1) := ((hs.2.1.set 0 (.slice (some ⟨wr.heap.size, 0, none⟩) 1 1)).alloc _).cell 0
      refine bodyPost_ret (v := mapV wr.heap.size 1) (by simp [results, Tryd.results10, go_sem, mapV, hcell]) rfl ?_
      refine ⟨wr.heap.size, q + 1, rfl, hs.2.2.size, by omega, ⟨?_, fun s hs2 => ?_, fun s t h1 h2 _ => by omega, by omega, fun s => by rw [upTo_length]; omega⟩, (hs.2.2.setCell (by show w.heap.size ≤ q; omega) _).alloc _⟩
      · have e : rows 1 (fun _ => q + 1) (fun _ => upTo ks zs bs k k) = [.slice (some ⟨q + 1, 0, none⟩) k k] := by simp [rows, upTo_length]
        rw [e]
        have hb := Blk.new (wr.setCell ⟨q, 0, none⟩ (.slice (some ⟨wr.heap.size, 0, none⟩) 1 1)) 124 [.slice (some ⟨q + 1, 0, none⟩) k k]
        have hsz : (wr.setCell ⟨q, 0, none⟩ (.slice (some ⟨wr.heap.size, 0, none⟩) 1 1)).heap.size = wr.heap.size := by simp [World.setCell]
        rw [hsz] at hb
        exact hb
      · exact (hs.1.far (by show q + 1 ≠ q; omega) _).alloc _
end Go.Proofs.YtijbmfmcpcpcaaaDoorR.syms
