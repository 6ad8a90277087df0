/-
  The JS files of FnCSSFilesInJSOrderIsPostorderDFS as they lie in memory by their content.
  Conditions: the files are readable.
-/
import Derived.Test.YtkogmgonceneeaaTurn
import Derived.Test.YtkogmgonceneeaaMk1
import Derived.Test.YtkogmgonceneeaaCs
import Derived.LoopTactic
import Derived.Outline
import Derived.IntWalk
import Derived.Deep.QuietTactic
import Derived.BigQuiet
import Derived.Deep.RegionHeld3
import Derived.Deep.RegionWith
import Derived.StillTailTactics
import Derived.Deep.DeepCutAuto
namespace Go.Proofs.Ytkogmgonceneeaa.css
open Go.ChangeShapes Go.WideShapes Go.ChangeAt Go.RowKit
open kit dfs

/-- the content of the files: of each its parts (of each part the imports: whether there is a target, and which), whether it has a CSS file, and which -/
abbrev Imp := Bool × Nat
abbrev Fl := List (List Imp) × Bool × Nat
abbrev Ct := List Fl
def zFl : Fl := ([], false, 0)
def fl (F : Ct) (f : Nat) : Fl := F.getD f zFl
def np (F : Ct) (f : Nat) : Nat := (fl F f).1.length
def imps (F : Ct) (f p : Nat) : List Imp := (fl F f).1.getD p []
def hasC (F : Ct) (f : Nat) : Bool := (fl F f).2.1
def cssOf (F : Ct) (f : Nat) : Nat := (fl F f).2.2
/-- the targets among imports -/
def tgts (l : List Imp) : List Nat := (l.filter (·.1)).map (·.2)
/-- all targets of file f -/
def T (F : Ct) (f : Nat) : List Nat := (List.range (np F f)).flatMap fun q => tgts (imps F f q)
def C (F : Ct) (f : Nat) : List Nat := if hasC F f = true then [cssOf F f] else []
theorem tgts_append (l m : List Imp) : tgts (l ++ m) = tgts l ++ tgts m := by simp [tgts]
/-- the targets behind part p and import k; behind the last part: none -/
def restP (F : Ct) (f p k : Nat) : List Nat := tgts ((imps F f p).drop k) ++ ((List.range (np F f)).drop (p + 1)).flatMap fun q => tgts (imps F f q)
theorem imps_out {F : Ct} {f p : Nat} (h : np F f ≤ p) : imps F f p = [] := by
  unfold imps
  rw [List.getD_eq_getElem?_getD, List.getElem?_eq_none (by exact h)]
  rfl
theorem restP_start (F : Ct) (f : Nat) : restP F f 0 0 = T F f := by
  unfold restP T
  rw [List.drop_zero]
  cases h : np F f with
  | zero => rw [imps_out (by omega)]; rfl
  | succ m =>
    rw [show List.range (m + 1) = 0 :: (List.range (m + 1)).drop 1 by
      rw [List.range_succ_eq_map]; rfl]
    rfl
theorem restP_part {F : Ct} {f p k : Nat} (hk : (imps F f p).length ≤ k) : restP F f p k = restP F f (p + 1) 0 := by
  unfold restP
  rw [List.drop_eq_nil_of_le hk, List.drop_zero]
  show [] ++ _ = _
  rw [List.nil_append]
  by_cases h : p + 1 < np F f
  · rw [List.drop_eq_getElem_cons (by simpa using h)]
    simp
  · rw [imps_out (by omega), List.drop_eq_nil_of_le (by simp; omega), List.drop_eq_nil_of_le (by simp; omega)]
    rfl
theorem restP_end {F : Ct} {f p : Nat} (hp : np F f ≤ p) : restP F f p 0 = [] := by
  unfold restP
  rw [imps_out hp, List.drop_nil, List.drop_eq_nil_of_le (by simp; omega)]
  rfl
theorem restP_imp {F : Ct} {f p k : Nat} (hk : k < (imps F f p).length) : restP F f p k = (if (imps F f p)[k].1 = true then [(imps F f p)[k].2] else []) ++ restP F f p (k + 1) := by
  unfold restP
  rw [List.drop_eq_getElem_cons hk, show (imps F f p)[k] :: (imps F f p).drop (k + 1) = [(imps F f p)[k]] ++ (imps F f p).drop (k + 1) from rfl, tgts_append, List.append_assoc]
  congr 1
  cases h : (imps F f p)[k].1 <;> simp [tgts, h]

structure Fits (n : Nat) (F : Ct) : Prop where
  len : F.length = n
  top : n ≤ 131072
  np : ∀ f, f < n → np F f ≤ 131072
  nd : ∀ f, f < n → ∀ p, p < css.np F f → (imps F f p).length ≤ 131072
  ok : ∀ f, f < n → ∀ p, p < css.np F f → ∀ x ∈ imps F f p, x.1 = true → x.2 < n
  css : ∀ f, f < n → hasC F f = true → cssOf F f ≠ 4294967295
theorem tgts_in {F : Ct} {n : Nat} (h : Fits n F) {f : Nat} (hf : f < n) {t : Nat} (ht : t ∈ T F f) : t < n := by
  obtain ⟨p, hp, ht⟩ := List.mem_flatMap.1 ht
  obtain ⟨x, hx, rfl⟩ := List.mem_map.1 ht
  obtain ⟨h1, h2⟩ := List.mem_filter.1 hx
  exact h.ok f hf p (List.mem_range.1 hp) x h1 h2

def ImpsC (w : World) (da : Option Addr) (D : List Imp) : Prop :=
  0 < D.length → ∃ b off, da = some ⟨b, off, none⟩ ∧ b < w.heap.size ∧ ∀ k (h : k < D.length), w.cell? ⟨b, off + k * 2, none⟩ = some (.bool D[k].1) ∧ w.cell? ⟨b, off + k * 2 + 1, none⟩ = some (.int .u32 (D[k].2 : Int))
def PartC (w : World) (b o : Nat) (x : List Imp) : Prop :=
  ∃ da dc, w.cell? ⟨b, o, none⟩ = some (.slice da x.length dc) ∧ x.length ≤ dc ∧ dc ≤ maxLen ∧ (da = none → dc = 0) ∧ ImpsC w da x ∧ ∀ y ∈ x, y.2 ≤ 4294967295
def PartsC (w : World) (pa : Option Addr) (P : List (List Imp)) : Prop :=
  0 < P.length → ∃ b off, pa = some ⟨b, off, none⟩ ∧ b < w.heap.size ∧ ∀ j, j < P.length → PartC w b (off + j) (P.getD j [])
def FileC (w : World) (b o : Nat) (x : Fl) : Prop :=
  ∃ pa pc, w.cell? ⟨b, o, none⟩ = some (.slice pa x.1.length pc) ∧ w.cell? ⟨b, o + 1, none⟩ = some (.bool x.2.1) ∧ w.cell? ⟨b, o + 2, none⟩ = some (.int .u32 (x.2.2 : Int)) ∧ x.2.2 ≤ 4294967295 ∧ x.1.length ≤ pc ∧ pc ≤ maxLen ∧ (pa = none → pc = 0) ∧ PartsC w pa x.1
def FilesC (w : World) (a : Option Addr) (n : Nat) (F : Ct) : Prop :=
  F.length = n ∧ (0 < n → ∃ b off, a = some ⟨b, off, none⟩ ∧ b < w.heap.size ∧ ∀ i, i < n → FileC w b (off + i * 3) (fl F i))
section
variable {w w2 : World}
theorem ImpsC.kept {da : Option Addr} {D : List Imp} (h : ImpsC w da D) (k : Kept w w2) : ImpsC w2 da D := fun hp => by
  obtain ⟨b, off, e, hb, hc⟩ := h hp
  exact ⟨b, off, e, Nat.lt_of_lt_of_le hb k.size, fun i hi => ⟨k.cell (hc i hi).1, k.cell (hc i hi).2⟩⟩
theorem PartC.kept {b o : Nat} {x : List Imp} (h : PartC w b o x) (k : Kept w w2) : PartC w2 b o x := by
  obtain ⟨da, dc, h1, h3, h4, h5, h6, h7⟩ := h
  exact ⟨da, dc, k.cell h1, h3, h4, h5, h6.kept k, h7⟩
theorem PartsC.kept {pa : Option Addr} {P : List (List Imp)} (h : PartsC w pa P) (k : Kept w w2) : PartsC w2 pa P := fun hp => by
  obtain ⟨b, off, e, hb, hc⟩ := h hp
  exact ⟨b, off, e, Nat.lt_of_lt_of_le hb k.size, fun j hj => (hc j hj).kept k⟩
theorem FileC.kept {b o : Nat} {x : Fl} (h : FileC w b o x) (k : Kept w w2) : FileC w2 b o x := by
  obtain ⟨pa, pc, h1, h2, h3, h4, h5, h6, h7, h8⟩ := h
  exact ⟨pa, pc, k.cell h1, k.cell h2, k.cell h3, h4, h5, h6, h7, h8.kept k⟩
theorem FilesC.kept {a : Option Addr} {n : Nat} {F : Ct} (h : FilesC w a n F) (k : Kept w w2) : FilesC w2 a n F := ⟨h.1, fun hp => by
  obtain ⟨b, off, e, hb, hc⟩ := h.2 hp
  exact ⟨b, off, e, Nat.lt_of_lt_of_le hb k.size, fun j hj => (hc j hj).kept k⟩⟩
/-- file i: where its parts lie, its CSS file -/
theorem FilesC.at_ {a : Option Addr} {n : Nat} {F : Ct} (h : FilesC w a n F) {i : Nat} (hi : i < n) : ∃ b off pa pc, a = some ⟨b, off, none⟩ ∧ b < w.heap.size ∧ w.cell? ⟨b, off + i * 3, none⟩ = some (.slice pa (np F i) pc) ∧ w.cell? ⟨b, off + i * 3 + 1, none⟩ = some (.bool (hasC F i)) ∧
    w.cell? ⟨b, off + i * 3 + 2, none⟩ = some (.int .u32 (cssOf F i : Int)) ∧ cssOf F i ≤ 4294967295 ∧ np F i ≤ pc ∧ pc ≤ 9223372036854775807 ∧ (pa = none → pc = 0) ∧ PartsC w pa (fl F i).1 := by
  obtain ⟨b, off, e, hb, hc⟩ := h.2 (by omega)
  obtain ⟨pa, pc, h1, h2, h3, h4, h5, h6, h7, h8⟩ := hc i hi
  unfold maxLen at h6
  exact ⟨b, off, pa, pc, e, hb, h1, h2, h3, h4, h5, h6, h7, h8⟩
/-- part p of file i: where its imports lie -/
theorem part_at {pa : Option Addr} {F : Ct} {i : Nat} (h : PartsC w pa (fl F i).1) {p : Nat} (hp : p < np F i) : ∃ b off da dc, pa = some ⟨b, off, none⟩ ∧ b < w.heap.size ∧ w.cell? ⟨b, off + p, none⟩ = some (.slice da (imps F i p).length dc) ∧
    (imps F i p).length ≤ dc ∧ dc ≤ 9223372036854775807 ∧ (da = none → dc = 0) ∧ ImpsC w da (imps F i p) ∧ ∀ y ∈ imps F i p, y.2 ≤ 4294967295 := by
  obtain ⟨b, off, e, hb, hc⟩ := h (by unfold np at hp; omega)
  obtain ⟨da, dc, h1, h3, h4, h5, h6, h7⟩ := hc p hp
  unfold maxLen at h4
  exact ⟨b, off, da, dc, e, hb, h1, h3, h4, h5, h6, h7⟩
end
end Go.Proofs.Ytkogmgonceneeaa.css
