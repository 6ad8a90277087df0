/-
  zzEntryLess over this seat's program; copying a row of entries whole; two rows of entries in memory.
  Conditions: none.
-/
import Derived.Test.YtbnkhpbgibgahaaFl
import Derived.Test.YtbnkhpbgibgahaaMk1
import Derived.Laws.CopyRow
import Derived.Laws.CopyOwn
namespace Go.Proofs.Ytbnkhpbgibgahaa.es
open Go.ChangeShapes Go.WideShapes Go.ChangeAt Go.RowKit
open kit ms fl

def entV (e : En) : Value := .agg #[.int .u32 e.s, .int .u32 e.src, .int .u32 e.inn]
theorem less17 (x y : En) (w : World) : Calls Try.prog 17 #[entV x, entV y] w fun e w' => e = .returned (.bool (elt x y)) ∧ Kept w w' := by
  obtain ⟨x1, x2, x3⟩ := x
  obtain ⟨y1, y2, y3⟩ := y
  unfold entV
  have hk : Kept w ((w.alloc (.cells #[.int .u32 x1, .int .u32 x2, .int .u32 x3] 31)).alloc (.cells #[.int .u32 y1, .int .u32 y2, .int .u32 y3] 31)) := ((Kept.refl w).alloc _).alloc _
  have HK := Lib.hid hk
  clear hk
  by_cases h1 : x1 = y1
  · subst h1
    have d1 : (x1 != x1) = false := by simp
    by_cases h2 : x3 = y3
    · subst h2
      have d2 : (x3 != x3) = false := by simp
      have hE : elt ⟨x1, x2, x3⟩ ⟨x1, y2, x3⟩ = decide (x2 < y2) := by simp [elt]
      have HE := Lib.hid hE
      clear hE
      go_enter Try.func17, Try.ntmps17
      go_wp2_with fail
      go_ret
      exact ⟨by rw [HE.out]; rfl, HK.out⟩
    · have d2 : (x3 != y3) = true := by simpa using h2
      have hE : elt ⟨x1, x2, x3⟩ ⟨x1, y2, y3⟩ = decide (x3 < y3) := by simp [elt, h2]
      have HE := Lib.hid hE
      clear hE h2
      go_enter Try.func17, Try.ntmps17
      go_wp2_with fail
      go_ret
      exact ⟨by rw [HE.out]; rfl, HK.out⟩
  · have d1 : (x1 != y1) = true := by simpa using h1
    have hE : elt ⟨x1, x2, x3⟩ ⟨y1, y2, y3⟩ = decide (x1 < y1) := by simp [elt, h1]
    have HE := Lib.hid hE
    clear hE h1
    go_enter Try.func17, Try.ntmps17
    go_wp2_with fail
    go_ret
    exact ⟨by rw [HE.out]; rfl, HK.out⟩

/-- copy(xs, buf): both rows whole -/
theorem run_copy3 (w : World) (ty : TypeId) (g b n c c2 : Nat) (X B : List En) (hX : Blk w g 31 (flat X)) (hB : Blk w b 31 (flat B)) (hx : X.length = n) (hb : B.length = n) :
    ∃ w', (Builtin.copy_ #[27, 27] ty #[.slice (some ⟨g, 0, none⟩) n c, .slice (some ⟨b, 0, none⟩) n c2]).run Try.prog w = .ok (goInt n) w' ∧ Blk w' g 31 (flat B) ∧ Turn w w' (fun k => k = g) := by
  have hl := run_loadCells_list (P := Try.prog) w ⟨b, 0, none⟩ (flat B) (fun j v hv => by
    have e : (⟨b, 0, none⟩ : Addr).add j = ⟨b, j, none⟩ := by
      unfold Addr.add
      by_cases hj : j = 0 <;> simp [hj]
    rw [e, hB.cell, hv])
  have hst := run_storeCells_at Try.prog g 0 31 (flat B) 0 (flat X).toArray w hX (by simp [flat_length, hx, hb]) (fun v hv => by
    unfold flat at hv
    obtain ⟨e, _, he⟩ := List.mem_flatMap.1 hv
    unfold ent at he
    simp only [List.mem_cons, List.not_mem_nil, or_false] at he
    rcases he with rfl | rfl | rfl <;> rfl)
  have hlen : (flat B).length = n * 3 := by rw [flat_length, hb]; omega
  have hfull : ((flat X).take (0 + 0) ++ flat B ++ (flat X).drop (0 + 0 + (flat B).length)).toArray = (flat B).toArray := by
    rw [List.drop_of_length_le (by rw [flat_length, flat_length, hx, hb]; omega)]
    simp
  rw [List.toList_toArray] at hst
  rw [hfull] at hst
  obtain ⟨i, hi, hz⟩ : ∃ i, Try.prog.info? 31 = some i ∧ i.size = 3 := by
    have h : (Try.prog.info? 31).map (·.size) = some 3 := by kernel_rfl
    obtain ⟨i, h1, h2⟩ := Option.map_eq_some_iff.1 h
    exact ⟨i, h1, h2⟩
  refine ⟨w.setRow g (flat B).toArray, ?_, setRow_heap w g _ _ 31 (0, 0) hX, ⟨rfl, rfl, rfl, by simp [World.setRow], fun k hk hn => setRow_other w g k _ hn⟩⟩
  rw [hlen] at hl
  simp [Builtin.copy_, run_underlying Try.underlying27, Builtin.lenOf, Builtin.firstCells, sizeOf, typeInfo, hi, hz, hl, hst]

/-- make([]zzEntry, n) -/
theorem makeE (n : Nat) (hn : n ≤ 65536) (w : World) : (Instr.makeSlice 27 (.int .i64 (n : Int)) (.int .i64 (n : Int))).run Try.prog w = .ok (.slice (some ⟨w.heap.size, 0, none⟩) n n) (w.alloc (.cells (flat (List.replicate n ⟨0, 0, 0⟩)).toArray 31)) := by
  obtain ⟨C, l1, _, g1, m1⟩ := makeN1 (T := 27) (E := 31) (size := 3) (bytes := 12) Try.underlying27 (by kernel_rfl) (by kernel_rfl) n (by omega) (by omega)
  have a0 := g1 0 (.int .u32 0) (by omega) (by kernel_rfl)
  have a1 := g1 1 (.int .u32 0) (by omega) (by kernel_rfl)
  have a2 := g1 2 (.int .u32 0) (by omega) (by kernel_rfl)
  have e : flat (List.replicate n ⟨0, 0, 0⟩) = C := by
    refine List.ext_getElem? fun t => ?_
    rw [flat_get]
    by_cases ht : t < n * 3
    · have hc : C[t]? = some (.int .u32 0) := by
        have h3 : t % 3 = 0 ∨ t % 3 = 1 ∨ t % 3 = 2 := by omega
        rcases h3 with h | h | h
        · have := a0 (t / 3) (by omega); rwa [show t / 3 * 3 + 0 = t by omega] at this
        · have := a1 (t / 3) (by omega); rwa [show t / 3 * 3 + 1 = t by omega] at this
        · have := a2 (t / 3) (by omega); rwa [show t / 3 * 3 + 2 = t by omega] at this
      rw [hc, List.getElem?_replicate, if_pos (by omega)]
      simp [cellOf]
    · rw [List.getElem?_eq_none (by omega : C.length ≤ t), List.getElem?_replicate, if_neg (by omega)]
      rfl
  rw [e]
  exact m1 w
/-- the sort's two rows: xs in block g, buf in block b -/
structure Sr (w : World) (g b n : Nat) (W : World) (X B : List En) : Prop where
  turn : Turn w W (fun k => k = g)
  bx : Blk W g 31 (flat X)
  bb : Blk W b 31 (flat B)
  lx : X.length = n
  lb : B.length = n
  new : w.heap.size ≤ b
  old : g < w.heap.size
section
variable {w W W2 : World} {g b n : Nat} {X B : List En}
theorem Sr.kept (h : Sr w g b n W X B) (k : Kept W W2) : Sr w g b n W2 X B := ⟨h.turn.kept k, h.bx.kept k, h.bb.kept k, h.lx, h.lb, h.new, h.old⟩
theorem Sr.at_ (h : Sr w g b n W X B) {j : Nat} (hj : j < n) : ∃ e, X[j]? = some e ∧ W.cell? ⟨g, j * 3, none⟩ = some (.int .u32 e.s) ∧ W.cell? ⟨g, j * 3 + 1, none⟩ = some (.int .u32 e.src) ∧ W.cell? ⟨g, j * 3 + 2, none⟩ = some (.int .u32 e.inn) := by
  have hl : j < X.length := by rw [h.lx]; exact hj
  have he : X[j]? = some X[j] := List.getElem?_eq_getElem hl
  refine ⟨X[j], he, ?_, ?_, ?_⟩
  · rw [h.bx.cell, show j * 3 = 3 * j + 0 by omega, flat_at he 0 (by omega)]; rfl
  · rw [h.bx.cell, show j * 3 + 1 = 3 * j + 1 by omega, flat_at he 1 (by omega)]; rfl
  · rw [h.bx.cell, show j * 3 + 2 = 3 * j + 2 by omega, flat_at he 2 (by omega)]; rfl
theorem Sr.spot (h : Sr w g b n W X B) {k : Nat} (hk : k < n) : ∃ v0 v1 v2, W.cell? ⟨b, k * 3, none⟩ = some v0 ∧ W.cell? ⟨b, k * 3 + 1, none⟩ = some v1 ∧ W.cell? ⟨b, k * 3 + 2, none⟩ = some v2 ∧
    W.frozen? ⟨b, k * 3, none⟩ = false ∧ W.frozen? ⟨b, k * 3 + 1, none⟩ = false ∧ W.frozen? ⟨b, k * 3 + 2, none⟩ = false := by
  have hl := flat_length B
  have hb := h.lb
  exact ⟨_, _, _, h.bb.cellD (i := k * 3) (by omega), h.bb.cellD (i := k * 3 + 1) (by omega), h.bb.cellD (i := k * 3 + 2) (by omega), h.bb.free _, h.bb.free _, h.bb.free _⟩
theorem Sr.put (h : Sr w g b n W X B) {k : Nat} (hk : k < n) (e : En) : Sr w g b n (((W.setCell ⟨b, k * 3, none⟩ (.int .u32 e.s)).setCell ⟨b, k * 3 + 1, none⟩ (.int .u32 e.src)).setCell ⟨b, k * 3 + 2, none⟩ (.int .u32 e.inn)) X (B.set k e) := by
  have hne : g ≠ b := by have := h.new; have := h.old; omega
  refine ⟨((h.turn.setNew (p := ⟨b, k * 3, none⟩) h.new _).setNew (p := ⟨b, k * 3 + 1, none⟩) h.new _).setNew (p := ⟨b, k * 3 + 2, none⟩) h.new _, ((h.bx.far (p := ⟨b, k * 3, none⟩) hne _).far (p := ⟨b, k * 3 + 1, none⟩) hne _).far (p := ⟨b, k * 3 + 2, none⟩) hne _, ?_, h.lx, by rw [List.length_set]; exact h.lb, h.new, h.old⟩
  have := ((h.bb.set (k * 3) (.int .u32 e.s)).set (k * 3 + 1) (.int .u32 e.src)).set (k * 3 + 2) (.int .u32 e.inn)
  rw [flat_set B k e (by rw [h.lb]; exact hk), show 3 * k = k * 3 by omega]
  exact this
theorem Sr.copied (h : Sr w g b n W X B) (hb : Blk W2 g 31 (flat B)) (ht : Turn W W2 (fun k => k = g)) : Sr w g b n W2 B B := by
  have hne : b ≠ g := by have := h.new; have := h.old; omega
  exact ⟨h.turn.trans ht, hb, ht.blk h.bb hne, h.lb, h.lb, h.new, h.old⟩
end
end Go.Proofs.Ytbnkhpbgibgahaa.es
