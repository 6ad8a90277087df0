/-
  n011_236's maker of a symbol map over this seat's program: the symbols laid source by source, in flat order, without names.
  Conditions: at most 4096 symbols and 4097 sources.
-/
import Derived.Test.YticcbjgjjmmbcaaDoorArr2
namespace Go.Proofs.YticcbjgjjmmbcaaDoor.arr
open Go.ChangeShapes Go.WideShapes Go.ChangeAt Go.RowKit
open kit chain arena cut

theorem infoRow : (Tryd.prog.info? 66).map (fun i => (i.zero, i.size, i.bytes)) = some (some (.slice none 0 0), 1, 24) := by kernel_rfl
theorem infoSym : (Tryd.prog.info? 57).map (fun i => (i.zero, i.size, i.bytes)) = some (some (.agg (cells1 zeroSym).toArray), 10, 48) := by kernel_rfl
theorem madeSym (n : Nat) : (madeCells (cells1 zeroSym).toArray (n * 10)).toList = cellsOf (List.replicate n zeroSym) := by
  apply List.ext_getElem?
  intro i
  have hsz : (cells1 zeroSym).toArray.size = 10 := rfl
  by_cases h : i < n * 10
  · have hi : i = (i / 10) * 10 + i % 10 := by omega
    have h1 : (cellsOf (List.replicate n zeroSym))[i]? = (cells1 zeroSym)[i % 10]? := by
      conv => lhs; rw [hi]
      rw [cellsOf_at _ _ _ (by simp; omega) (Nat.mod_lt _ (by omega))]
      have : i / 10 < n := by omega
      simp [this]
    rw [h1]
    have hm : i % 10 < 10 := Nat.mod_lt _ (by omega)
    simp only [madeCells, hsz, Array.toList_map, List.getElem?_map, Array.toList_range, List.getElem?_range h, Option.map_some]
    rw [getElem!_pos (cells1 zeroSym).toArray (i % 10) (by rw [hsz]; exact hm)]
    have hl : i % 10 < (cells1 zeroSym).length := hm
    rw [List.getElem?_eq_getElem hl]
    rfl
  · rw [List.getElem?_eq_none (by rw [Array.length_toList, size_madeCells]; omega), List.getElem?_eq_none (by rw [cellsOf_length]; simp; omega)]
theorem makeSyms (n : Nat) (hn : n ≤ 1048576) : ∃ C : Array Value, C.toList = cellsOf (List.replicate n zeroSym) ∧ ∀ w : World, (Instr.makeSlice 66 (.int .i64 (n : Int)) (.int .i64 (n : Int))).run Tryd.prog w = .ok (.slice (some ⟨w.heap.size, 0, none⟩) n n) (w.alloc (.cells C 57)) := by
  obtain ⟨i, hi, hz, hs, hby⟩ := info_parts infoSym
  refine ⟨madeCells (cells1 zeroSym).toArray (n * 10), madeSym n, fun w => ?_⟩
  have hb : (i.bytes : Int) * (n : Int) ≤ 281474976710656 := by rw [hby]; omega
  have hr := run_make (P := Tryd.prog) w 66 57 i _ Tryd.underlying66 hi hz .i64 .i64 n n (by omega) (by omega) hb (by omega)
  simp only [Int.toNat_natCast, hs] at hr
  exact hr

theorem invC (w : World) : Calls Tryd.prog 24 #[] w fun e w' => e = .returned (.agg #[.int .u32 4294967295, .int .u32 4294967295]) ∧ Kept w w' := by
  go_enter Tryd.func24, Tryd.ntmps24
  go_wp2_with fail
  exact bodyPost_ret (v := .agg #[.int .u32 4294967295, .int .u32 4294967295]) (by simp [results, Tryd.results24, go_sem]) rfl ⟨rfl, (Kept.refl _).alloc _⟩
theorem at32C (A : Option Addr) (n c i : Nat) (us : List Int) (w : World) (h : Ints .u32 w A n us) (hi : i ≤ 1048576) (hn : n ≤ 1048576) :
    Calls Tryd.prog 16 #[.slice A n c, .int .i64 (i : Int)] w fun e w' => e = .returned (.int .u32 (us.getD i 0)) ∧ w = w' := by
  by_cases hin : i < n
  · obtain ⟨b, off, rfl, hlt, hc⟩ := h.2 (by omega)
    have c1 := hc i hin
    have hki : (i : Int) < (n : Int) := by omega
    clear hc h
    generalize us.getD i 0 = x at *
    go_enter Tryd.func16, Tryd.ntmps16
    go_wp2
    go_ret
    exact ⟨rfl, rfl⟩
  · have e : us.getD i 0 = 0 := by simp [List.getElem?_eq_none (show us.length ≤ i by have := h.1; omega)]
    rw [e]
    clear h e
    go_enter Tryd.func16, Tryd.ntmps16
    go_wp2
    go_ret
    exact ⟨rfl, rfl⟩
theorem at16C (A : Option Addr) (n c i : Nat) (us : List Int) (w : World) (h : Ints .u16 w A n us) (hi : i ≤ 1048576) (hn : n ≤ 1048576) :
    Calls Tryd.prog 27 #[.slice A n c, .int .i64 (i : Int)] w fun e w' => e = .returned (.int .u16 (us.getD i 0)) ∧ w = w' := by
  by_cases hin : i < n
  · obtain ⟨b, off, rfl, hlt, hc⟩ := h.2 (by omega)
    have c1 := hc i hin
    have hki : (i : Int) < (n : Int) := by omega
    clear hc h
    generalize us.getD i 0 = x at *
    go_enter Tryd.func27, Tryd.ntmps27
    go_wp2
    go_ret
    exact ⟨rfl, rfl⟩
  · have e : us.getD i 0 = 0 := by simp [List.getElem?_eq_none (show us.length ≤ i by have := h.1; omega)]
    rw [e]
    clear h e
    go_enter Tryd.func27, Tryd.ntmps27
    go_wp2
    go_ret
    exact ⟨rfl, rfl⟩

def NewMap (w : World) (S : Nat) (e : Ending) (w' : World) : Prop := ∃ g, e = .returned (mapV g S) ∧ w.heap.size ≤ g ∧ Blk w' g 66 (List.replicate S (.slice none 0 0)) ∧ Kept w w'
theorem newMapC (S : Nat) (w : World) (hS : S ≤ 1048576) : Calls Tryd.prog 26 #[.int .i64 (S : Int)] w (NewMap w S) := by
  have hmk := fun wx : World => run_make_row' (P := Tryd.prog) 37 66 (.slice none 0 0) 24 Tryd.underlying37 infoRow rfl .i64 .i64 S (by omega) (by omega) wx
  have hmc : (madeCells #[Value.slice none 0 0] S).toList = List.replicate S (.slice none 0 0) := toList_madeCells_one _ S
  have HM := Lib.hid hmc
  clear hmc
  generalize madeCells #[Value.slice none 0 0] S = C at *
  go_enter Tryd.func26, Tryd.ntmps26
  go_wp2_with fail
  refine bodyPost_ret (v := mapV (w.heap.size + 1) S) (by simp [results, Tryd.results26, go_sem, mapV]) rfl ⟨_, rfl, by omega, ?_, ((Kept.refl _).alloc _).alloc _⟩
  have e : C = (List.replicate S (Value.slice none 0 0)).toArray := by rw [← Array.toList_inj, HM.out]
  have := Blk.new (w.alloc (.cells #[.slice (some ⟨w.heap.size + 1, 0, none⟩) S S] 39)) 66 (List.replicate S (Value.slice none 0 0))
  rw [← e] at this
  simpa using this

/-- the symbols of the map, laid flat -/
def symI (zs : List Int) (n : Nat) (T : Nat → Int) (us fs : List Int) (i : Nat) : Sym := ⟨⟨#[]⟩, (cut.linkOf zs n T i).1, (cut.linkOf zs n T i).2, (us.getD i 0).toNat, (fs.getD i 0).toNat, 0⟩

/-- a row of symbols that a loop fills -/
def fillY (F : Nat → Sym) (n k : Nat) : List Sym := (List.range n).map fun j => if j < k then F j else zeroSym
section
variable (F : Nat → Sym) {n k : Nat}
theorem fillY_length (n k : Nat) : (fillY F n k).length = n := by simp [fillY]
theorem fillY_at (h : k < n) : (fillY F n k).getD k zeroSym = zeroSym := by simp [fillY, h]
theorem fillY_set (h : k < n) : (fillY F n k).set k (F k) = fillY F n (k + 1) := by
  apply List.ext_getElem?
  intro j
  by_cases hj : k = j
  · subst hj
    rw [List.getElem?_set_self (by simpa [fillY] using h)]
    simp [fillY, h]
  · rw [List.getElem?_set_ne hj]
    simp only [fillY, List.getElem?_map]
    by_cases hjn : j < n
    · rw [List.getElem?_range hjn]
      simp only [Option.map_some]
      by_cases hk : j < k
      · rw [if_pos hk, if_pos (by omega)]
      · rw [if_neg hk, if_neg (by omega)]
    · simp [hjn]
theorem fillY_zero (n : Nat) : fillY F n 0 = List.replicate n zeroSym := by
  apply List.ext_getElem?
  intro j
  simp only [fillY, List.getElem?_map, List.getElem?_replicate]
  by_cases h : j < n <;> simp [h]
theorem fillY_full (n : Nat) : fillY F n n = (List.range n).map F := by
  apply List.ext_getElem?
  intro j
  simp only [fillY, List.getElem?_map]
  by_cases h : j < n
  · rw [List.getElem?_range h]; simp [h]
  · simp [h]
end
/-- four fields of a new symbol written: link, use count, flags -/
theorem fillB (l : List Sym) (k : Nat) (p : Ref) (u f : Nat) (hk : k < l.length) (hz : l.getD k zeroSym = zeroSym) :
    ((((cellsOf l).set (k * 10 + 2) (.int .u32 (p.1 : Int))).set (k * 10 + 3) (.int .u32 (p.2 : Int))).set (k * 10 + 4) (.int .u32 (u : Int))).set (k * 10 + 7) (.int .u16 (f : Int)) = cellsOf (l.set k ⟨⟨#[]⟩, p.1, p.2, u, f, 0⟩) := by
  have g : ∀ y : Sym, (l.set k y).getD k zeroSym = y := fun y => by simp [hk]
  rw [cellsOf_set l k 2 _ ⟨⟨#[]⟩, p.1, 0, 0, 0, 0⟩ hk (by omega) (by rw [hz]; rfl)]
  rw [cellsOf_set _ k 3 _ ⟨⟨#[]⟩, p.1, p.2, 0, 0, 0⟩ (by simpa using hk) (by omega) (by rw [g]; rfl)]
  rw [List.set_set, cellsOf_set _ k 4 _ ⟨⟨#[]⟩, p.1, p.2, u, 0, 0⟩ (by simpa using hk) (by omega) (by rw [g]; rfl)]
  rw [List.set_set, cellsOf_set _ k 7 _ ⟨⟨#[]⟩, p.1, p.2, u, f, 0⟩ (by simpa using hk) (by omega) (by rw [g]; rfl), List.set_set]
theorem fillB_blk {w : World} {b : Nat} {F : Nat → Sym} {c j : Nat} (h : Blk w b 57 (cellsOf (fillY F c j))) (hj : j < c) (p : Ref) (u f : Nat) (hF : F j = ⟨⟨#[]⟩, p.1, p.2, u, f, 0⟩) (x y z v : Int) (hx : x = (p.1 : Int)) (hy : y = (p.2 : Int)) (hz : z = (u : Int)) (hv : v = (f : Int)) :
    Blk ((((w.setCell ⟨b, j * 10 + 2, none⟩ (.int .u32 x)).setCell ⟨b, j * 10 + 3, none⟩ (.int .u32 y)).setCell ⟨b, j * 10 + 4, none⟩ (.int .u32 z)).setCell ⟨b, j * 10 + 7, none⟩ (.int .u16 v)) b 57 (cellsOf (fillY F c (j + 1))) := by
  subst hx hy hz hv
  have h1 := (((h.set (j * 10 + 2) (.int .u32 (p.1 : Int))).set (j * 10 + 3) (.int .u32 (p.2 : Int))).set (j * 10 + 4) (.int .u32 (u : Int))).set (j * 10 + 7) (.int .u16 (f : Int))
  rw [fillB _ j p u f (by rw [fillY_length]; exact hj) (fillY_at F hj), ← hF, fillY_set F hj] at h1
  exact h1

/-- where the maker stands behind k sources -/
structure Part (w wr : World) (zs : List Int) (n : Nat) (F : Nat → Sym) (g q q13 S k : Nat) (bk : Nat → Nat) : Prop where
  outer : Blk wr g 66 (fillV (fun s => .slice (some ⟨bk s, 0, none⟩) (cnt zs n s) (cnt zs n s)) (.slice none 0 0) S k)
  inner : ∀ s, s < k → Blk wr (bk s) 57 (cellsOf (lay zs n F s))
  apart : ∀ s t, s < k → t < k → bk s = bk t → s = t
  base : ∀ s, s < k → w.heap.size ≤ bk s
  res : Blk wr q 39 [.slice none 0 0]
  box : Blk wr q13 39 [.slice (some ⟨g, 0, none⟩) S S]
  kept : Kept w wr
  num : w.heap.size = q ∧ q < q13 ∧ q < g ∧ g ≠ q13
/-- one source more: its row of symbols is filled and laid into the outer row -/
theorem Part.next {w wo wr : World} {zs : List Int} {n : Nat} {F : Nat → Sym} {g q q13 S k : Nat} {bk : Nat → Nat} (h : Part w wo zs n F g q q13 S k bk) (hk : k < S) (hkp : Kept wo wr)
    (hb : Blk wr wo.heap.size 57 (cellsOf (fillY (fun j => F (pos zs n k + j)) (cnt zs n k) (cnt zs n k)))) :
    Part w (wr.setCell ⟨g, k, none⟩ (.slice (some ⟨wo.heap.size, 0, none⟩) (cnt zs n k) (cnt zs n k))) zs n F g q q13 S (k + 1) (fun s => if s = k then wo.heap.size else bk s) := by
  have hlt : ∀ s, s < k → bk s < wo.heap.size := fun s hs => (h.inner s hs).lt
  have hgl := h.outer.lt
  refine ⟨?_, ?_, ?_, ?_, ?_, ?_, ?_, h.num⟩
  · have h1 := (h.outer.kept hkp).set k (.slice (some ⟨wo.heap.size, 0, none⟩) (cnt zs n k) (cnt zs n k))
    have e : (fillV (fun s => Value.slice (some ⟨bk s, 0, none⟩) (cnt zs n s) (cnt zs n s)) (.slice none 0 0) S k) = fillV (fun s => Value.slice (some ⟨if s = k then wo.heap.size else bk s, 0, none⟩) (cnt zs n s) (cnt zs n s)) (.slice none 0 0) S k := by
      unfold fillV
      apply List.map_congr_left
      intro j _
      by_cases hj : j < k
      · have : ¬ j = k := by omega
        simp only [if_pos hj, if_neg this]
      · simp only [if_neg hj]
    rw [e] at h1
    have h2 := fillV_set (fun s => Value.slice (some ⟨if s = k then wo.heap.size else bk s, 0, none⟩) (cnt zs n s) (cnt zs n s)) (.slice none 0 0) hk
    simp only [if_true] at h2
    rw [h2] at h1
    exact h1
  · intro s hs
    have hne : ∀ b, Blk wr b 57 (cellsOf (lay zs n F s)) → b ≠ g := fun b hb2 => (hb2.apart (h.outer.kept hkp) (by decide))
    by_cases hsk : s = k
    · subst hsk
      simp only [if_true]
      have e : cellsOf (lay zs n F s) = cellsOf (fillY (fun j => F (pos zs n s + j)) (cnt zs n s) (cnt zs n s)) := by rw [fillY_full]; rfl
      rw [e]
      refine hb.far ?_ _
      exact (hb.apart (h.outer.kept hkp) (by decide))
    · simp only [if_neg hsk]
      have h1 := (h.inner s (by omega)).kept hkp
      exact h1.far (hne _ h1) _
  · intro s t hs ht e
    by_cases h1 : s = k <;> by_cases h2 : t = k
    · omega
    · simp only [h1, if_true, if_neg h2] at e; have := hlt t (by omega); omega
    · simp only [h2, if_true, if_neg h1] at e; have := hlt s (by omega); omega
    · simp only [if_neg h1, if_neg h2] at e; exact h.apart s t (by omega) (by omega) e
  · intro s hs
    by_cases h1 : s = k
    · simp only [h1, if_true]; exact h.kept.size
    · simp only [if_neg h1]; exact h.base s (by omega)
  · exact (h.res.kept hkp).far (by show q ≠ g; have := h.num; omega) _
  · exact (h.box.kept hkp).far (by show q13 ≠ g; have := h.num; omega) _
  · exact (h.kept.trans hkp).setCell (by show w.heap.size ≤ g; have := h.num; omega) _
theorem Part.arena {w wr : World} {zs : List Int} {n : Nat} {F : Nat → Sym} {g q q13 : Nat} {bk : Nat → Nat} (h : Part w wr zs n F g q q13 (srcs zs n) (srcs zs n) bk) (hS : srcs zs n ≤ 4097) (hn : n ≤ 4096) : Arena wr g bk (srcs zs n) (lay zs n F) := by
  refine ⟨?_, h.inner, h.apart, by omega, fun s => by rw [lay_length]; have := cnt_le zs n s; omega⟩
  have h1 := h.outer
  rw [fillV_full] at h1
  have e : rows (srcs zs n) bk (lay zs n F) = (List.range (srcs zs n)).map fun s => Value.slice (some ⟨bk s, 0, none⟩) (cnt zs n s) (cnt zs n s) := by simp only [rows, lay_length]
  rw [e]
  exact h1

def BuildOk (w : World) (zs : List Int) (n : Nat) (F : Nat → Sym) (e : Ending) (w' : World) : Prop :=
  ∃ g bk, e = .returned (mapV g (srcs zs n)) ∧ w.heap.size ≤ g ∧ (∀ s, s < srcs zs n → w.heap.size ≤ bk s) ∧ Arena w' g bk (srcs zs n) (lay zs n F) ∧ Kept w w'

set_option maxRecDepth 100000 in
set_option maxHeartbeats 8000000 in
theorem buildC (cb c0 rb c1 tb c2 : Nat) (A3 : Option Addr) (n3 c3 : Nat) (A4 : Option Addr) (n4 c4 n : Nat) (zs us fs : List Int) (T : Nat → Int) (w : World) (h0 : IntAt w cb (counts zs n)) (h1 : RefAt w rb zs n) (h2 : IntAt w tb ((List.range n).map T)) (h3 : Ints .u32 w A3 n3 us) (h4 : Ints .u16 w A4 n4 fs)
    (hT : ∀ i, i < n → T i < (n : Int)) (hu : ∀ i, 0 ≤ us.getD i 0) (hf : ∀ i, 0 ≤ fs.getD i 0) (hS : srcs zs n ≤ 4097) (hn : n ≤ 4096) (hn3 : n3 ≤ 1048576) (hn4 : n4 ≤ 1048576) :
    Calls Tryd.prog 15 #[.slice (some ⟨cb, 0, none⟩) (srcs zs n) c0, .slice (some ⟨rb, 0, none⟩) n c1, .slice (some ⟨tb, 0, none⟩) n c2, .slice A3 n3 c3, .slice A4 n4 c4, .bool false] w (BuildOk w zs n (symI zs n T us fs)) := by
  have H0 := Lib.hid h0
  have H1 := Lib.hid h1
  have H2 := Lib.hid h2
  have H3 := Lib.hid h3
  have H4 := Lib.hid h4
  have HT := Lib.hid hT
  have HU := Lib.hid hu
  have HF := Lib.hid hf
  have HSS := Lib.hid hS
  have hpS := pos_srcs zs n
  have HPS := Lib.hid hpS
  clear h0 h1 h2 h3 h4 hT hu hf hpS
  have hnew := newMapC (srcs zs n) (w.alloc (.cells #[.slice none 0 0] 39)) (by omega)
  have HNEW := Lib.hid hnew
  clear hnew
  generalize hSS : srcs zs n = S at *
  have HSE := Lib.hid hSS
  clear hSS
  go_enter Tryd.func15, Tryd.ntmps15
  go_wp2_with fail
  refine HNEW.out.mono ?_
  rintro e w1 ⟨g, rfl, hg, hbo, hk1⟩
  unfold mapV
  generalize hq : w.heap.size = q at *
  have HQ := Lib.hid hq
  have hg2 : q < g := by have : (w.alloc (.cells #[.slice none 0 0] 39)).heap.size = q + 1 := by simp [hq]
                         omega
  have hlg := hbo.lt
  have HP0 : Hid (Part w (w1.alloc (.cells #[.slice (some ⟨g, 0, none⟩) S S] 39)) zs n (symI zs n T us fs) g q w1.heap.size S 0 (fun _ => 0)) := by
    refine Lib.hid ⟨?_, fun s hs => absurd hs (by omega), fun s t hs => absurd hs (by omega), fun s hs => absurd hs (by omega), ?_, Blk.new w1 39 [.slice (some ⟨g, 0, none⟩) S S], (((Kept.refl w).alloc _).trans hk1).alloc _, hq, by omega, hg2, by omega⟩
    · rw [fillV_zero]; exact hbo.alloc _
    · have b0 := Blk.new w 39 [.slice none 0 0]
      rw [hq] at b0
      exact (b0.kept hk1).alloc _
  clear hq hg hbo hk1
  go_wp2_with fail
  generalize hq13 : w1.heap.size = q13 at *
  clear hq13
  generalize w1.alloc (.cells #[.slice (some ⟨g, 0, none⟩) S S] 39) = wa at *
  go_loopw [14, 15, 16, 17, 18] (fun t14 t15 _ _ _ wr => ∃ (k : Nat) (bk : Nat → Nat), k ≤ S ∧ t15 = .int .i64 (k : Int) ∧ t14 = .int .i64 (pos zs n k : Int) ∧ Part w wr zs n (symI zs n T us fs) g q q13 S k bk) (fun _ t _ _ _ _ => S - (intOf t).toNat)
  case atStart => exact ⟨0, fun _ => 0, by omega, rfl, rfl, HP0.out⟩
  case round =>
    obtain ⟨k, bk, hk, rfl, rfl, hpart⟩ := hrel
    have HPT := Lib.hid hpart
    clear hpart
    by_cases hlt : k < S
    · have hki : (k : Int) < (S : Int) := by omega
      have x0 := HPT.out.kept.cell (H0.out.2 k (by rw [counts_length, HSE.out]; exact hlt))
      rw [counts_at zs n (by rw [HSE.out]; exact hlt)] at x0
      have hcl := cnt_le zs n k
      have hpl := pos_le zs n k
      have hpc : pos zs n k + cnt zs n k = pos zs n (k + 1) := by have := pos_mono1 zs n k; unfold cnt; omega
      have hpl1 := pos_le zs n (k + 1)
      obtain ⟨C, hC, hmk⟩ := makeSyms (cnt zs n k) (by omega)
      have HC := Lib.hid hC
      have HPC := Lib.hid hpc
      clear hC hpc
      obtain ⟨wo, hwo⟩ : ∃ wo : World, wo = wr := ⟨_, rfl⟩
      subst hwo
      go_wp2_with fail
      have HIN : Hid (Blk (wo.alloc (.cells C 57)) wo.heap.size 57 (cellsOf (fillY (fun j => symI zs n T us fs (pos zs n k + j)) (cnt zs n k) 0)) ∧ Kept wo (wo.alloc (.cells C 57))) := by
        refine Lib.hid ⟨?_, (Kept.refl _).alloc _⟩
        have e : C = (cellsOf (fillY (fun j => symI zs n T us fs (pos zs n k + j)) (cnt zs n k) 0)).toArray := by rw [← Array.toList_inj, HC.out, fillY_zero]
        rw [e]
        exact Blk.new _ _ _
      have hbw : w.heap.size ≤ wo.heap.size := HPT.out.kept.size
      generalize wo.alloc (.cells C 57) = wb at *
      generalize hbb : wo.heap.size = bb at *
      have HBB := Lib.hid hbb
      clear hbb hmk HC
      go_loopw [14, 17, 18] (fun t14 t17 _ wr => ∃ j i : Nat, j ≤ cnt zs n k ∧ t17 = .int .i64 (j : Int) ∧ t14 = .int .i64 (i : Int) ∧ Hid (i = pos zs n k + j) ∧ Blk wr bb 57 (cellsOf (fillY (fun j => symI zs n T us fs (pos zs n k + j)) (cnt zs n k) j)) ∧ Kept wo wr) (fun _ t _ _ => cnt zs n k - (intOf t).toNat)
      case atStart => exact ⟨0, pos zs n k, by omega, rfl, rfl, Lib.hid (by omega), HIN.out.1, HIN.out.2⟩
      case round =>
        obtain ⟨j, i, hj, rfl, rfl, HI, hbl, hkp⟩ := hrel
        have x1 := hkp.cell x0
        by_cases hjl : j < cnt zs n k
        · have hin : i < n := by have := HI.out; have := HPC.out; omega
          have hii : (i : Int) < (n : Int) := by omega
          have KW := HPT.out.kept.trans hkp
          have t0 := KW.cell (H2.out.2 i (by simpa using hin))
          have et : ((List.range n).map T).getD i 0 = T i := by simp [hin]
          rw [et] at t0
          have HKW := Lib.hid KW
          have HBL := Lib.hid hbl
          have HKP := Lib.hid hkp
          have hTi := HT.out i hin
          have HFI : Hid ((fun j => symI zs n T us fs (pos zs n k + j)) j = symI zs n T us fs i) := Lib.hid (by show symI zs n T us fs (pos zs n k + j) = _; rw [HI.out])
          clear KW hbl hkp et
          go_wp2_with fail
          refine (invC _).mono ?_
          rintro e w2 ⟨rfl, hk2⟩
          have hb2 := HBL.out.kept hk2
          have hat := fun q (hq : q < 10) => (hb2.cell (j * 10 + q)).trans ((cellsOf_at _ j q (by rw [fillY_length]; exact hjl) hq).trans (by rw [fillY_at _ hjl]))
          have y2 : w2.cell? ⟨bb, j * 10 + 2, none⟩ = some (.int .u32 0) := hat 2 (by omega)
          have y3 : w2.cell? ⟨bb, j * 10 + 3, none⟩ = some (.int .u32 0) := hat 3 (by omega)
          have y4 : w2.cell? ⟨bb, j * 10 + 4, none⟩ = some (.int .u32 0) := hat 4 (by omega)
          have y7 : w2.cell? ⟨bb, j * 10 + 7, none⟩ = some (.int .u16 0) := hat 7 (by omega)
          have z2 := hb2.free (j * 10 + 2)
          have z3 := hb2.free (j * 10 + 3)
          have z4 := hb2.free (j * 10 + 4)
          have z7 := hb2.free (j * 10 + 7)
          have t1 := hk2.cell t0
          have hbl2 := hb2.lt
          have hcc : (j : Int) < (cnt zs n k : Int) := by omega
          have hcl2 : cnt zs n k ≤ 4096 := by omega
          have htb : tb < q := by have := H2.out.1; have := HQ.out; omega
          have hrb : rb < q := by have := Blk.lt H1.out; have := HQ.out; omega
          have hqb : q ≤ bb := by have := HQ.out; omega
          have htw : tb < w2.heap.size := by omega
          have hrw : rb < w2.heap.size := by omega
          have t1' := ((Kept.refl w2).alloc (.cells #[.int .u32 4294967295, .int .u32 4294967295] 44)).cell t1
          have HB2 := Lib.hid hb2
          have HK2 := Lib.hid (HKP.out.trans hk2)
          have HKW2 := Lib.hid (HKW.out.trans hk2)
          clear hat hb2 hk2 t0
          by_cases hneg : T i < 0
          · have HLK : Hid (cut.linkOf zs n T i = inv) := Lib.hid (by unfold cut.linkOf; rw [if_pos hneg])
            generalize T i = ti at *
            generalize hus : us.getD i 0 = u at *
            generalize hfs : fs.getD i 0 = f at *
            have u0 := HU.out i
            have f0 := HF.out i
            rw [hus] at u0
            rw [hfs] at f0
            have HUS := Lib.hid hus
            have HFS := Lib.hid hfs
            clear hus hfs
            go_wp2_with fail
            refine (at32C A3 n3 c3 i us _ ?_ (by omega) hn3).mono ?_
            · exact H3.out.kept (by repeat (first | exact HKW2.out | apply Kept.alloc | refine Kept.setCell ?_ hbw _))
            rintro e w' ⟨rfl, rfl⟩
            rw [HUS.out]
            go_wp2_with fail
            refine (at16C A4 n4 c4 i fs _ ?_ (by omega) hn4).mono ?_
            · exact H4.out.kept (by repeat (first | exact HKW2.out | apply Kept.alloc | refine Kept.setCell ?_ hbw _))
            rintro e w' ⟨rfl, rfl⟩
            rw [HFS.out]
            have HNB : Hid (Blk (((((w2.setCell ⟨bb, j * 10 + 2, none⟩ (.int .u32 4294967295)).setCell ⟨bb, j * 10 + 2 + 1, none⟩ (.int .u32 4294967295)).setCell ⟨bb, j * 10 + 4, none⟩ (.int .u32 u)).setCell ⟨bb, j * 10 + 7, none⟩ (.int .u16 f)).alloc (.cells #[.int .u32 4294967295, .int .u32 4294967295] 44)) bb 57 (cellsOf (fillY (fun j => symI zs n T us fs (pos zs n k + j)) (cnt zs n k) (j + 1))) ∧ Kept wo (((((w2.setCell ⟨bb, j * 10 + 2, none⟩ (.int .u32 4294967295)).setCell ⟨bb, j * 10 + 2 + 1, none⟩ (.int .u32 4294967295)).setCell ⟨bb, j * 10 + 4, none⟩ (.int .u32 u)).setCell ⟨bb, j * 10 + 7, none⟩ (.int .u16 f)).alloc (.cells #[.int .u32 4294967295, .int .u32 4294967295] 44))) := Lib.hid (by
              have hle : wo.heap.size ≤ bb := by have := HBB.out; omega
              refine ⟨?_, ((((HK2.out.setCell hle _).setCell hle _).setCell hle _).setCell hle _).alloc _⟩
              refine Blk.alloc (fillB_blk HB2.out hjl inv u.toNat f.toNat ?_ _ _ _ _ rfl rfl (by omega) (by omega)) _
              rw [HFI.out]
              unfold symI
              rw [HLK.out, HUS.out, HFS.out])
            go_wp2_with fail
            have HRR : Hid (∃ r s : Nat, r ≤ cnt zs n k ∧ Value.int .i64 ((j : Int) + 1) = .int .i64 (r : Int) ∧ Value.int .i64 ((i : Int) + 1) = .int .i64 (s : Int) ∧ Hid (s = pos zs n k + r) ∧ Blk (((((w2.setCell ⟨bb, j * 10 + 2, none⟩ (.int .u32 4294967295)).setCell ⟨bb, j * 10 + 2 + 1, none⟩ (.int .u32 4294967295)).setCell ⟨bb, j * 10 + 4, none⟩ (.int .u32 u)).setCell ⟨bb, j * 10 + 7, none⟩ (.int .u16 f)).alloc (.cells #[.int .u32 4294967295, .int .u32 4294967295] 44)) bb 57 (cellsOf (fillY (fun j => symI zs n T us fs (pos zs n k + j)) (cnt zs n k) r)) ∧ Kept wo (((((w2.setCell ⟨bb, j * 10 + 2, none⟩ (.int .u32 4294967295)).setCell ⟨bb, j * 10 + 2 + 1, none⟩ (.int .u32 4294967295)).setCell ⟨bb, j * 10 + 4, none⟩ (.int .u32 u)).setCell ⟨bb, j * 10 + 7, none⟩ (.int .u16 f)).alloc (.cells #[.int .u32 4294967295, .int .u32 4294967295] 44))) := Lib.hid ⟨j + 1, i + 1, by omega, by go_num, by go_num, Lib.hid (by have := HI.out; omega), HNB.out.1, HNB.out.2⟩
            go_roundw
            case rel => first | exact HRR.out | ((repeat apply Exists.intro); exact ⟨HRR.out, rfl⟩)
            case measure => simp [intOf]; omega
          · have HLK : Hid (cut.linkOf zs n T i = ref zs n (T i).toNat) := Lib.hid (by unfold cut.linkOf; rw [if_neg hneg])
            obtain ⟨r, hr⟩ := Int.eq_ofNat_of_zero_le (show 0 ≤ T i by omega)
            rw [hr] at HLK t1 t1' hTi hneg
            have hrn : r < n := by omega
            have hri : (r : Int) < (n : Int) := by omega
            obtain ⟨r0, r1⟩ := H1.out.cells hrn
            have r0' := HKW2.out.cell r0
            have r1' := HKW2.out.cell r1
            have r0'' := ((Kept.refl w2).alloc (.cells #[.int .u32 4294967295, .int .u32 4294967295] 44)).cell r0'
            have r1'' := ((Kept.refl w2).alloc (.cells #[.int .u32 4294967295, .int .u32 4294967295] 44)).cell r1'
            simp only [Int.toNat_natCast] at HLK
            clear r0 r1 hr
            generalize hus : us.getD i 0 = u at *
            generalize hfs : fs.getD i 0 = f at *
            generalize hrr : ref zs n r = rr at *
            clear hrr
            have u0 := HU.out i
            have f0 := HF.out i
            rw [hus] at u0
            rw [hfs] at f0
            have HUS := Lib.hid hus
            have HFS := Lib.hid hfs
            clear hus hfs
            go_wp2_with fail
            refine (at32C A3 n3 c3 i us _ ?_ (by omega) hn3).mono ?_
            · exact H3.out.kept (by repeat (first | exact HKW2.out | apply Kept.alloc | refine Kept.setCell ?_ hbw _))
            rintro e w' ⟨rfl, rfl⟩
            rw [HUS.out]
            go_wp2_with fail
            refine (at16C A4 n4 c4 i fs _ ?_ (by omega) hn4).mono ?_
            · exact H4.out.kept (by repeat (first | exact HKW2.out | apply Kept.alloc | refine Kept.setCell ?_ hbw _))
            rintro e w' ⟨rfl, rfl⟩
            rw [HFS.out]
            have HNB : Hid (Blk (((((w2.setCell ⟨bb, j * 10 + 2, none⟩ (.int .u32 (rr.1 : Int))).setCell ⟨bb, j * 10 + 2 + 1, none⟩ (.int .u32 (rr.2 : Int))).setCell ⟨bb, j * 10 + 4, none⟩ (.int .u32 u)).setCell ⟨bb, j * 10 + 7, none⟩ (.int .u16 f)).alloc (.cells #[.int .u32 (rr.1 : Int), .int .u32 (rr.2 : Int)] 44)) bb 57 (cellsOf (fillY (fun j => symI zs n T us fs (pos zs n k + j)) (cnt zs n k) (j + 1))) ∧ Kept wo (((((w2.setCell ⟨bb, j * 10 + 2, none⟩ (.int .u32 (rr.1 : Int))).setCell ⟨bb, j * 10 + 2 + 1, none⟩ (.int .u32 (rr.2 : Int))).setCell ⟨bb, j * 10 + 4, none⟩ (.int .u32 u)).setCell ⟨bb, j * 10 + 7, none⟩ (.int .u16 f)).alloc (.cells #[.int .u32 (rr.1 : Int), .int .u32 (rr.2 : Int)] 44))) := Lib.hid (by
              have hle : wo.heap.size ≤ bb := by have := HBB.out; omega
              refine ⟨?_, ((((HK2.out.setCell hle _).setCell hle _).setCell hle _).setCell hle _).alloc _⟩
              refine Blk.alloc (fillB_blk HB2.out hjl rr u.toNat f.toNat ?_ _ _ _ _ rfl rfl (by omega) (by omega)) _
              rw [HFI.out]
              unfold symI
              rw [HLK.out, HUS.out, HFS.out])
            go_wp2_with fail
            have HRR : Hid (∃ r s : Nat, r ≤ cnt zs n k ∧ Value.int .i64 ((j : Int) + 1) = .int .i64 (r : Int) ∧ Value.int .i64 ((i : Int) + 1) = .int .i64 (s : Int) ∧ Hid (s = pos zs n k + r) ∧ Blk (((((w2.setCell ⟨bb, j * 10 + 2, none⟩ (.int .u32 (rr.1 : Int))).setCell ⟨bb, j * 10 + 2 + 1, none⟩ (.int .u32 (rr.2 : Int))).setCell ⟨bb, j * 10 + 4, none⟩ (.int .u32 u)).setCell ⟨bb, j * 10 + 7, none⟩ (.int .u16 f)).alloc (.cells #[.int .u32 (rr.1 : Int), .int .u32 (rr.2 : Int)] 44)) bb 57 (cellsOf (fillY (fun j => symI zs n T us fs (pos zs n k + j)) (cnt zs n k) r)) ∧ Kept wo (((((w2.setCell ⟨bb, j * 10 + 2, none⟩ (.int .u32 (rr.1 : Int))).setCell ⟨bb, j * 10 + 2 + 1, none⟩ (.int .u32 (rr.2 : Int))).setCell ⟨bb, j * 10 + 4, none⟩ (.int .u32 u)).setCell ⟨bb, j * 10 + 7, none⟩ (.int .u16 f)).alloc (.cells #[.int .u32 (rr.1 : Int), .int .u32 (rr.2 : Int)] 44))) := Lib.hid ⟨j + 1, i + 1, by omega, by go_num, by go_num, Lib.hid (by have := HI.out; omega), HNB.out.1, HNB.out.2⟩
            go_roundw
            case rel => first | exact HRR.out | ((repeat apply Exists.intro); exact ⟨HRR.out, rfl⟩)
            case measure => simp [intOf]; omega
        · obtain rfl : j = cnt zs n k := by omega
          have hpt := HPT.out
          have hkpt := hkp
          have b0 : wr.cell? ⟨q13, 0, none⟩ = some (.slice (some ⟨g, 0, none⟩) S S) := (hpt.box.kept hkpt).cell 0
          have o0 : wr.cell? ⟨g, k, none⟩ = some (.slice none 0 0) := ((hpt.outer.kept hkpt).cell k).trans (fillV_at _ _ hlt)
          have o1 := (hpt.outer.kept hkpt).free k
          have hNX := hpt.next hlt hkpt (by rw [HBB.out]; exact hbl)
          rw [HBB.out] at hNX
          have HNX := Lib.hid hNX
          have HIP : Hid (i = pos zs n (k + 1)) := Lib.hid (by rw [HI.out, HPC.out])
          clear hpt hkpt hNX hbl hkp
          go_wp2_with fail
          have HRR : Hid (∃ (r : Nat) (bk2 : Nat → Nat), r ≤ S ∧ Value.int .i64 ((k : Int) + 1) = .int .i64 (r : Int) ∧ Value.int .i64 (i : Int) = .int .i64 (pos zs n r : Int) ∧ Part w (wr.setCell ⟨g, k, none⟩ (.slice (some ⟨bb, 0, none⟩) (cnt zs n k) (cnt zs n k))) zs n (symI zs n T us fs) g q q13 S r bk2) := Lib.hid ⟨k + 1, _, by omega, by go_num, by rw [HIP.out], HNX.out⟩
          go_roundw
          case rel => first | exact HRR.out | ((repeat apply Exists.intro); exact ⟨HRR.out, rfl⟩)
          case measure => simp [intOf]; omega
    · obtain rfl : k = S := by omega
      have b0 : wr.cell? ⟨q13, 0, none⟩ = some (.slice (some ⟨g, 0, none⟩) k k) := HPT.out.box.cell 0
      have r0 : wr.cell? ⟨q, 0, none⟩ = some (.slice none 0 0) := HPT.out.res.cell 0
      have r1 := HPT.out.res.free 0
      go_wp2_with fail
      have hcell : (wr.setCell ⟨q, 0, none⟩ (.slice (some ⟨g, 0, none⟩) k k)).cell? ⟨q, 0, none⟩ = some (.slice (some ⟨g, 0, none⟩) k k) := (HPT.out.res.set 0 (.slice (some ⟨g, 0, none⟩) k k)).cell 0
      refine bodyPost_ret (v := mapV g k) (by simp [results, Tryd.results15, go_sem, mapV, hcell]) rfl ?_
      have hp := HPT.out
      have hse := HSE.out
      have hnum := hp.num
      have hA : Arena wr g bk (srcs zs n) (lay zs n (symI zs n T us fs)) := by
        have hp2 := hp
        rw [← hse] at hp2
        exact hp2.arena (by rw [hse]; omega) hn
      have hlt2 : ∀ s, s < srcs zs n → bk s ≠ q := fun s hs => by
        have h1 := hA.inner s hs
        exact h1.apart hp.res (by decide)
      refine ⟨g, bk, by rw [hse], by omega, fun s hs => hp.base s (by rw [hse] at hs; exact hs), ?_, hp.kept.setCell (by show w.heap.size ≤ q; omega) _⟩
      exact ⟨hA.outer.far (by show g ≠ q; omega) _, fun s hs => (hA.inner s hs).far (by show bk s ≠ q; exact hlt2 s hs) _, hA.apart, hA.fit⟩
end Go.Proofs.YticcbjgjjmmbcaaDoor.arr
