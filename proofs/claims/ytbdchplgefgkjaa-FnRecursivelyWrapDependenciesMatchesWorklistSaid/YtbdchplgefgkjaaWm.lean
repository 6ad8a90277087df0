/-
  The linker's files in memory over this seat's program: a row of files, their JSReprs, their import records; contracts of Index32's functions.
  Conditions: none.
-/
import Derived.Test.YtbdchplgefgkjaaTurn
import Derived.Test.YtbdchplgefgkjaaMk
import Derived.Test.YtbdchplgefgkjaaWp
import Derived.LoopTactic
import Derived.Outline
import Derived.IntWalk
import Derived.Deep.QuietTactic
import Derived.BigQuiet
import Derived.Deep.RegionHeld3
import Derived.Deep.RegionWith
import Derived.StillTailTactics
import Derived.Deep.DeepCutAuto
namespace Go.Proofs.Ytbdchplgefgkjaa.wm
open Go.ChangeShapes Go.WideShapes Go.ChangeAt Go.RowKit
open kit wrp

theorem make (a : Int) (h0 : 0 ≤ a) (h1 : a ≤ 4294967295) (w : World) :
    Calls Try.prog 9 #[.int .u32 a] w fun e w' => e = .returned (.agg #[.int .u32 (4294967295 - a)]) ∧ Kept w w' := by
  have hx := flip32 a h0 h1
  go_enter Try.func9, Try.ntmps9
  go_wp2
  exact bodyPost_ret (v := .agg #[.int .u32 (4294967295 - a)]) (by simp [results, Try.results9, go_sem]) rfl ⟨rfl, (Kept.refl _).alloc _⟩
theorem get (a : Int) (h0 : 0 ≤ a) (h1 : a ≤ 4294967295) (w : World) :
    Calls Try.prog 13 #[.agg #[.int .u32 a]] w fun e w' => e = .returned (.int .u32 (4294967295 - a)) ∧ Kept w w' := by
  have hx := flip32 a h0 h1
  go_enter Try.func13, Try.ntmps13
  go_wp2
  go_ret
  exact ⟨rfl, (Kept.refl _).alloc _⟩
theorem valid (a : Int) (b : Bool) (hb : (a == 0) = !b) (w : World) :
    Calls Try.prog 12 #[.agg #[.int .u32 a]] w fun e w' => e = .returned (.bool b) ∧ Kept w w' := by
  have h2 : (a != 0) = b := by rw [bne, hb]; simp
  clear hb
  go_enter Try.func12, Try.ntmps12
  go_wp2
  go_ret
  exact ⟨rfl, (Kept.refl _).alloc _⟩

theorem sizeR : (Try.prog.info? 101).map (·.size) = some 15 := by kernel_rfl
/-- what an import record's source index holds -/
def flag (t : Option Nat) : Int := match t with
  | some t => 4294967295 - (t : Int)
  | none => 0
/-- the targets of file i -/
def im (K : Nat → Nat) (T : Nat → Nat → Option Nat) (i : Nat) : List Nat := (List.range (K i)).filterMap (T i)
theorem im_succ (T : Nat → Nat → Option Nat) (i j : Nat) : (List.range (j + 1)).filterMap (T i) = (List.range j).filterMap (T i) ++ (T i j).toList := by
  rw [List.range_succ, List.filterMap_append]
  congr 1

structure Mem (w : World) (cb LB n : Nat) (J RB K : Nat → Nat) (T : Nat → Nat → Option Nat) (ek : Nat → Int) (d : Nat → Bool) (z : Nat → Int) : Prop where
  ctx : ∃ cs, Blk w cb 190 cs ∧ cs[10]? = some (.slice (some ⟨LB, 0, none⟩) n n)
  repr : ∃ cs, Blk w LB 123 cs ∧ ∀ i, i < n → cs[i * 24 + 2]? = some (.iface 87 (.pointer (some ⟨J i, 0, none⟩)))
  js : ∀ i, i < n → ∃ cs, Blk w (J i) 86 cs ∧ cs.length = 64 ∧ cs[15]? = some (.bool (d i)) ∧ cs[11]? = some (.int .u8 (z i)) ∧ cs[62]? = some (.int .u8 (ek i)) ∧ cs[35]? = some (.slice (some ⟨RB i, 0, none⟩) (K i) (K i))
  recs : ∀ i, i < n → ∃ cs, Blk w (RB i) 101 cs ∧ cs.length = K i * 15 ∧ (∀ v ∈ cs, v.oneCell' = true) ∧ ∀ j, j < K i → cs[j * 15 + 10]? = some (.int .u32 (flag (T i j)))
  apart : ∀ i k, i < n → k < n → J i = J k → i = k
  fit : n ≤ 4096 ∧ (∀ i, i < n → K i ≤ 262144) ∧ (∀ i, i < n → 0 ≤ z i ∧ z i ≤ 255) ∧ ∀ i j t, i < n → j < K i → T i j = some t → t < n

section
variable {w w2 : World} {cb LB n : Nat} {J RB K : Nat → Nat} {T : Nat → Nat → Option Nat} {ek : Nat → Int} {d : Nat → Bool} {z : Nat → Int}
/-- the blocks that the recursion may turn -/
def JB (n : Nat) (J : Nat → Nat) (b : Nat) : Prop := ∃ i, i < n ∧ J i = b
theorem Mem.notJ (h : Mem w cb LB n J RB K T ek d z) {b t : Nat} {cs : List Value} (hb : Blk w b t cs) (ht : t ≠ 86) : ¬ JB n J b := by
  rintro ⟨i, hi, e⟩
  obtain ⟨c2, h2, _⟩ := h.js i hi
  rw [e] at h2
  exact hb.apart h2 ht rfl
theorem Mem.kept (h : Mem w cb LB n J RB K T ek d z) (k : Kept w w2) : Mem w2 cb LB n J RB K T ek d z := by
  obtain ⟨c, h1, h2⟩ := h.ctx
  obtain ⟨c3, h3, h4⟩ := h.repr
  refine ⟨⟨c, h1.kept k, h2⟩, ⟨c3, h3.kept k, h4⟩, fun i hi => ?_, fun i hi => ?_, h.apart, h.fit⟩
  · obtain ⟨c5, h5, r⟩ := h.js i hi
    exact ⟨c5, h5.kept k, r⟩
  · obtain ⟨c5, h5, r⟩ := h.recs i hi
    exact ⟨c5, h5.kept k, r⟩
theorem Mem.cell (h : Mem w cb LB n J RB K T ek d z) : w.cell? ⟨cb, 10, none⟩ = some (.slice (some ⟨LB, 0, none⟩) n n) := by
  obtain ⟨c, h1, h2⟩ := h.ctx
  rw [h1.cell]; exact h2
theorem Mem.file (h : Mem w cb LB n J RB K T ek d z) {i : Nat} (hi : i < n) : w.cell? ⟨LB, i * 24 + 2, none⟩ = some (.iface 87 (.pointer (some ⟨J i, 0, none⟩))) := by
  obtain ⟨c, h1, h2⟩ := h.repr
  rw [h1.cell]; exact h2 i hi
theorem Mem.cells (h : Mem w cb LB n J RB K T ek d z) {i : Nat} (hi : i < n) : w.cell? ⟨J i, 15, none⟩ = some (.bool (d i)) ∧ w.cell? ⟨J i, 11, none⟩ = some (.int .u8 (z i)) ∧ w.cell? ⟨J i, 62, none⟩ = some (.int .u8 (ek i)) ∧
    w.cell? ⟨J i, 35, none⟩ = some (.slice (some ⟨RB i, 0, none⟩) (K i) (K i)) ∧ w.frozen? ⟨J i, 15, none⟩ = false ∧ w.frozen? ⟨J i, 11, none⟩ = false := by
  obtain ⟨c, h1, _, h3, h4, h5, h6⟩ := h.js i hi
  exact ⟨by rw [h1.cell]; exact h3, by rw [h1.cell]; exact h4, by rw [h1.cell]; exact h5, by rw [h1.cell]; exact h6, h1.free _, h1.free _⟩
/-- a record's cells -/
theorem Mem.record (h : Mem w cb LB n J RB K T ek d z) {i j : Nat} (hi : i < n) (hj : j < K i) : ∃ cs : List Value, cs.length = 15 ∧ w.rangeAt (RB i) (j * 15) cs ∧ cs.toArray.all (·.oneCell') = true ∧ cs[10]? = some (.int .u32 (flag (T i j))) := by
  obtain ⟨c, h1, h2, h3, h4⟩ := h.recs i hi
  have hlt : j * 15 + 15 ≤ c.length := by rw [h2]; have := Nat.mul_le_mul_right 15 (show j + 1 ≤ K i by omega); omega
  refine ⟨(c.drop (j * 15)).take 15, by simp; omega, h1.range _ _, all_oneCell_toArray (fun v hv => h3 v (List.mem_of_mem_drop (List.mem_of_mem_take hv))), ?_⟩
  rw [List.getElem?_take, if_pos (by omega), List.getElem?_drop]
  exact h4 j hj
/-- file v's JSRepr marked as done -/
theorem Mem.done (h : Mem w cb LB n J RB K T ek d z) {v : Nat} (hv : v < n) : Mem (w.setCell ⟨J v, 15, none⟩ (.bool true)) cb LB n J RB K T ek (upd d v true) z := by
  obtain ⟨c, h1, h2⟩ := h.ctx
  obtain ⟨c3, h3, h4⟩ := h.repr
  obtain ⟨cv, hv1, _⟩ := h.js v hv
  refine ⟨⟨c, h1.far (h1.apart hv1 (by decide)) _, h2⟩, ⟨c3, h3.far (h3.apart hv1 (by decide)) _, h4⟩, fun i hi => ?_, fun i hi => ?_, h.apart, h.fit⟩
  · obtain ⟨c5, h5, l5, r1, r2, r3, r4⟩ := h.js i hi
    by_cases e : i = v
    · subst e
      refine ⟨c5.set 15 (.bool true), h5.set 15 _, by simpa using l5, ?_, ?_, ?_, ?_⟩
      · rw [List.getElem?_set_self (by omega), upd_same]
      · rw [List.getElem?_set_ne (by omega)]; exact r2
      · rw [List.getElem?_set_ne (by omega)]; exact r3
      · rw [List.getElem?_set_ne (by omega)]; exact r4
    · exact ⟨c5, h5.far (fun q => e (h.apart i v hi hv q)) _, l5, by rw [upd_ne _ _ e]; exact r1, r2, r3, r4⟩
  · obtain ⟨c5, h5, r⟩ := h.recs i hi
    exact ⟨c5, h5.far (h5.apart hv1 (by decide)) _, r⟩
/-- file v's wrap kind written -/
theorem Mem.wrap (h : Mem w cb LB n J RB K T ek d z) {v : Nat} (hv : v < n) (x : Int) (hx : 0 ≤ x ∧ x ≤ 255) : Mem (w.setCell ⟨J v, 11, none⟩ (.int .u8 x)) cb LB n J RB K T ek d (upd z v x) := by
  obtain ⟨c, h1, h2⟩ := h.ctx
  obtain ⟨c3, h3, h4⟩ := h.repr
  obtain ⟨cv, hv1, _⟩ := h.js v hv
  refine ⟨⟨c, h1.far (h1.apart hv1 (by decide)) _, h2⟩, ⟨c3, h3.far (h3.apart hv1 (by decide)) _, h4⟩, fun i hi => ?_, fun i hi => ?_, h.apart, h.fit.1, h.fit.2.1, fun i hi => ?_, h.fit.2.2.2⟩
  · obtain ⟨c5, h5, l5, r1, r2, r3, r4⟩ := h.js i hi
    by_cases e : i = v
    · subst e
      refine ⟨c5.set 11 (.int .u8 x), h5.set 11 _, by simpa using l5, ?_, ?_, ?_, ?_⟩
      · rw [List.getElem?_set_ne (by omega)]; exact r1
      · rw [List.getElem?_set_self (by omega), upd_same]
      · rw [List.getElem?_set_ne (by omega)]; exact r3
      · rw [List.getElem?_set_ne (by omega)]; exact r4
    · exact ⟨c5, h5.far (fun q => e (h.apart i v hi hv q)) _, l5, r1, by rw [upd_ne _ _ e]; exact r2, r3, r4⟩
  · obtain ⟨c5, h5, r⟩ := h.recs i hi
    exact ⟨c5, h5.far (h5.apart hv1 (by decide)) _, r⟩
  · by_cases e : i = v
    · rw [e, upd_same]; exact hx
    · rw [upd_ne _ _ e]; exact h.fit.2.2.1 i hi
theorem upd_self {α : Type} (f : Nat → α) (v : Nat) : upd f v (f v) = f := by
  funext x
  by_cases e : x = v
  · rw [e, upd_same]
  · rw [upd_ne _ _ e]
end
end Go.Proofs.Ytbdchplgefgkjaa.wm
