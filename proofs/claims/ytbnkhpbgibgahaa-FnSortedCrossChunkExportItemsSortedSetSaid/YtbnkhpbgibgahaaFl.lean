/-
  A row of entries as cells, three a entry.
  Conditions: none.
-/
import Derived.Test.YtbnkhpbgibgahaaMi
import Derived.Test.YtbnkhpbgibgahaaSq
import Derived.Test.YtbnkhpbgibgahaaBlk
namespace Go.Proofs.Ytbnkhpbgibgahaa.fl
open Go.ChangeShapes Go.WideShapes Go.ChangeAt Go.RowKit
open kit ms sq Go.Sort

def cellOf (e : En) (k : Nat) : Value := if k = 0 then .int .u32 e.s else if k = 1 then .int .u32 e.src else .int .u32 e.inn
def ent (e : En) : List Value := [.int .u32 e.s, .int .u32 e.src, .int .u32 e.inn]
def flat (L : List En) : List Value := L.flatMap ent
theorem flat_length (L : List En) : (flat L).length = 3 * L.length := by
  induction L with
  | nil => rfl
  | cons e L ih =>
    have h : (flat (e :: L)).length = 3 + (flat L).length := by simp [flat, ent]; omega
    rw [h, ih, List.length_cons]; omega
theorem flat_get (L : List En) : ∀ t, (flat L)[t]? = (L[t / 3]?).map (fun e => cellOf e (t % 3)) := by
  induction L with
  | nil => intro t; simp [flat]
  | cons e L ih =>
    intro t
    have h : flat (e :: L) = ent e ++ flat L := by simp [flat]
    rw [h]
    by_cases h3 : t < 3
    · rw [List.getElem?_append_left (by simp [ent]; omega), show t / 3 = 0 by omega]
      rcases (by omega : t = 0 ∨ t = 1 ∨ t = 2) with rfl | rfl | rfl <;> rfl
    · rw [List.getElem?_append_right (by simp [ent]; omega), show t / 3 = (t - 3) / 3 + 1 by omega, List.getElem?_cons_succ, show t - (ent e).length = t - 3 from rfl, ih, show (t - 3) % 3 = t % 3 by omega]
theorem flat_at {L : List En} {i : Nat} {e : En} (h : L[i]? = some e) (k : Nat) (hk : k < 3) : (flat L)[3 * i + k]? = some (cellOf e k) := by
  rw [flat_get, show (3 * i + k) / 3 = i by omega, h, show (3 * i + k) % 3 = k by omega]
  rfl
theorem flat_set (L : List En) (i : Nat) (e : En) (hi : i < L.length) : flat (L.set i e) = (((flat L).set (3 * i) (.int .u32 e.s)).set (3 * i + 1) (.int .u32 e.src)).set (3 * i + 2) (.int .u32 e.inn) := by
  refine List.ext_getElem? fun t => ?_
  rw [flat_get]
  have hl := flat_length L
  by_cases ht : t / 3 = i
  · rw [ht, List.getElem?_set_self hi]
    rcases (by omega : t = 3 * i ∨ t = 3 * i + 1 ∨ t = 3 * i + 2) with rfl | rfl | rfl
    · rw [List.getElem?_set_ne (by omega), List.getElem?_set_ne (by omega), List.getElem?_set_self (by omega), show 3 * i % 3 = 0 by omega]; rfl
    · rw [List.getElem?_set_ne (by omega), List.getElem?_set_self (by rw [List.length_set]; omega), show (3 * i + 1) % 3 = 1 by omega]; rfl
    · rw [List.getElem?_set_self (by rw [List.length_set, List.length_set]; omega), show (3 * i + 2) % 3 = 2 by omega]; rfl
  · rw [List.getElem?_set_ne (fun h => ht h.symm), List.getElem?_set_ne (by omega), List.getElem?_set_ne (by omega), List.getElem?_set_ne (by omega), flat_get]
/-- the cells of a row of arrays -/
def Cells (d : Array En) (sp : List Value) : List Value := flat d.toList ++ sp
theorem cells_at {d : Array En} {sp : List Value} {i : Nat} (hi : i < d.size) (k : Nat) (hk : k < 3) : (Cells d sp)[3 * i + k]? = some (cellOf d[i]! k) := by
  unfold Cells
  rw [List.getElem?_append_left (by rw [flat_length, Array.length_toList]; omega)]
  exact flat_at (by rw [Array.getElem?_toList, getElem!_pos d i hi, Array.getElem?_eq_getElem hi]) k hk
theorem cells_set {d : Array En} {sp : List Value} {i : Nat} (hi : i < d.size) (e : En) : Cells (d.setIfInBounds i e) sp = (((Cells d sp).set (3 * i) (.int .u32 e.s)).set (3 * i + 1) (.int .u32 e.src)).set (3 * i + 2) (.int .u32 e.inn) := by
  have hl : 3 * i + 2 < (flat d.toList).length := by rw [flat_length, Array.length_toList]; omega
  unfold Cells
  rw [Array.toList_setIfInBounds, flat_set _ _ _ (by rw [Array.length_toList]; exact hi), List.set_append_left _ _ (by omega), List.set_append_left _ _ (by rw [List.length_set]; omega), List.set_append_left _ _ (by rw [List.length_set, List.length_set]; omega)]
theorem cells_swp {d : Array En} {sp : List Value} {i j : Nat} (hi : i < d.size) (hj : j < d.size) : Cells (swp d i j) sp =
    ((((((Cells d sp).set (3 * i) (.int .u32 d[j]!.s)).set (3 * i + 1) (.int .u32 d[j]!.src)).set (3 * i + 2) (.int .u32 d[j]!.inn)).set (3 * j) (.int .u32 d[i]!.s)).set (3 * j + 1) (.int .u32 d[i]!.src)).set (3 * j + 2) (.int .u32 d[i]!.inn) := by
  unfold swp
  rw [cells_set (by simpa using hj), cells_set hi]
end Go.Proofs.Ytbnkhpbgibgahaa.fl
