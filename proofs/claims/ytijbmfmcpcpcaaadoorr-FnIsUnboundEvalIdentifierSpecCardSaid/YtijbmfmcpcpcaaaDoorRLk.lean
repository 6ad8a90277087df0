/-
  The law file n011_69's model of links over this seat's program: the link of a symbol, the root of its chain.
  Conditions: at most 2^20 links.
-/
import Derived.Test.YtijbmfmcpcpcaaaDoorRBlk
import Derived.Test.YtijbmfmcpcpcaaaDoorRChain
import Derived.LoopTactic
import Derived.Outline
namespace Go.Proofs.YtijbmfmcpcpcaaaDoorR.lk
open Go.ChangeShapes Go.WideShapes Go.ChangeAt Go.RowKit
open kit

/-- the link of symbol i, if it leads to an earlier one -/
def linkOf (zs : List Int) (i : Nat) : Option Nat := if 0 ≤ zs.getD i (-1) ∧ zs.getD i (-1) < (i : Int) then some (zs.getD i (-1)).toNat else none
def linkI (zs : List Int) (i : Nat) : Int := match linkOf zs i with | some j => (j : Int) | none => -1
theorem linkOf_lt {zs : List Int} {i j : Nat} (h : linkOf zs i = some j) : j < i := by
  unfold linkOf at h
  split at h
  · injection h with h; omega
  · cases h
/-- the root of the chain from i, with fuel -/
def rootF (zs : List Int) : Nat → Nat → Nat
  | 0, i => i
  | f + 1, i => match linkOf zs i with | some j => rootF zs f j | none => i
def rootOf (zs : List Int) (i : Nat) : Nat := rootF zs i i
theorem rootF_le (zs : List Int) (f i : Nat) : rootF zs f i ≤ i := by
  induction f generalizing i with
  | zero => exact Nat.le_refl _
  | succ f ih =>
    simp only [rootF]
    split
    · rename_i j h; have := ih j; have := linkOf_lt h; omega
    · exact Nat.le_refl _
theorem rootF_eq (zs : List Int) (f : Nat) : ∀ i, i ≤ f → rootF zs f i = rootOf zs i := by
  have key : ∀ f1 f2 i, i ≤ f1 → i ≤ f2 → rootF zs f1 i = rootF zs f2 i := by
    intro f1
    induction f1 with
    | zero =>
      intro f2 i h1 h2
      obtain rfl : i = 0 := by omega
      cases f2 with
      | zero => rfl
      | succ f2 =>
        simp only [rootF]
        split
        · rename_i j h; exact absurd (linkOf_lt h) (by omega)
        · rfl
    | succ f1 ih =>
      intro f2 i h1 h2
      cases f2 with
      | zero =>
        obtain rfl : i = 0 := by omega
        simp only [rootF]
        split
        · rename_i j h; exact absurd (linkOf_lt h) (by omega)
        · rfl
      | succ f2 =>
        simp only [rootF]
        split
        · rename_i j h; have := linkOf_lt h; exact ih f2 j (by omega) (by omega)
        · rfl
  intro i hi
  exact key f i i hi (Nat.le_refl _)
theorem root_some {zs : List Int} {i j : Nat} (h : linkOf zs i = some j) : rootOf zs i = rootOf zs j := by
  have hl := linkOf_lt h
  have h1 : rootF zs (i + 1) i = rootOf zs i := rootF_eq zs _ _ (by omega)
  rw [← h1]
  simp only [rootF, h]
  exact rootF_eq zs _ _ (by omega)
theorem root_none {zs : List Int} {i : Nat} (h : linkOf zs i = none) : rootOf zs i = i := by
  have h1 : rootF zs (i + 1) i = rootOf zs i := rootF_eq zs _ _ (by omega)
  rw [← h1]
  simp only [rootF, h]
theorem root_le (zs : List Int) (i : Nat) : rootOf zs i ≤ i := rootF_le zs i i

/-- a slice of integers that came in, cell by cell -/
def Ints (k : IntKind) (w : World) (A : Option Addr) (n : Nat) (zs : List Int) : Prop :=
  zs.length = n ∧ (0 < n → ∃ b off, A = some ⟨b, off, none⟩ ∧ b < w.heap.size ∧ ∀ i, i < n → w.cell? ⟨b, off + i, none⟩ = some (.int k (zs.getD i (-1))))
theorem Ints.kept {k : IntKind} {w w2 : World} {A : Option Addr} {n : Nat} {zs : List Int} (h : Ints k w A n zs) (hk : Kept w w2) : Ints k w2 A n zs :=
  ⟨h.1, fun h0 => by
    obtain ⟨b, off, e, hlt, hc⟩ := h.2 h0
    exact ⟨b, off, e, Nat.lt_of_lt_of_le hlt hk.size, fun i hi => hk.cell (hc i hi)⟩⟩

set_option maxHeartbeats 1000000 in
theorem link47 (A : Option Addr) (n c i : Nat) (zs : List Int) (w : World) (h : Ints .i32 w A n zs) (hb : ∀ j, -2147483648 ≤ zs.getD j (-1) ∧ zs.getD j (-1) ≤ 2147483647) (hi : i ≤ 1048576) (hn : n ≤ 1048576) :
    Calls Tryd.prog 47 #[.slice A n c, .int .i64 (i : Int)] w fun e w' => e = .returned (.int .i64 (linkI zs i)) ∧ w = w' := by
  obtain ⟨b1, b2⟩ := hb i
  have HE : ∀ v : Int, (linkI zs i = v ↔ v = linkI zs i) := fun v => eq_comm
  clear HE
  by_cases hin : i < n
  · obtain ⟨b, off, rfl, hlt, hc⟩ := h.2 (by omega)
    have c1 := hc i hin
    have hki : (i : Int) < (n : Int) := by omega
    have HF : Hid (linkI zs i = if 0 ≤ zs.getD i (-1) ∧ zs.getD i (-1) < (i : Int) then zs.getD i (-1) else -1) := by
      unfold Hid linkI linkOf
      by_cases hq : 0 ≤ zs.getD i (-1) ∧ zs.getD i (-1) < (i : Int)
      · simp only [if_pos hq]; omega
      · simp only [if_neg hq]
    clear hc h hb
    generalize zs.getD i (-1) = x at *
    by_cases h0 : 0 ≤ x
    · by_cases h1 : x < (i : Int)
      · go_enter Tryd.func47, Tryd.ntmps47
        go_wp2
        go_ret
        exact ⟨by rw [HF.out, if_pos ⟨h0, h1⟩]; rfl, rfl⟩
      · go_enter Tryd.func47, Tryd.ntmps47
        go_wp2
        go_ret
        exact ⟨by rw [HF.out, if_neg (by omega)]; rfl, rfl⟩
    · go_enter Tryd.func47, Tryd.ntmps47
      go_wp2
      go_ret
      exact ⟨by rw [HF.out, if_neg (by omega)]; rfl, rfl⟩
  · have HF : Hid (linkI zs i = -1) := by
      have hl := h.1
      have e : zs.getD i (-1) = -1 := by simp [List.getElem?_eq_none (show zs.length ≤ i by omega)]
      unfold Hid linkI linkOf
      rw [e]
      simp
    clear h hb b1 b2
    go_enter Tryd.func47, Tryd.ntmps47
    go_wp2
    go_ret
    exact ⟨by rw [HF.out]; rfl, rfl⟩

set_option maxHeartbeats 1000000 in
theorem root13 (A : Option Addr) (n c i : Nat) (zs : List Int) (w : World) (h : Ints .i32 w A n zs) (hb : ∀ j, -2147483648 ≤ zs.getD j (-1) ∧ zs.getD j (-1) ≤ 2147483647) (hi : i ≤ 1048576) (hn : n ≤ 1048576) :
    Calls Tryd.prog 13 #[.slice A n c, .int .i64 (i : Int)] w fun e w' => e = .returned (.int .i64 ((rootOf zs i : Nat) : Int)) ∧ w = w' := by
  have HL := Lib.hid (fun (j : Nat) (hj : j ≤ 1048576) => link47 A n c j zs w h hb hj hn)
  clear h hb
  go_enter Tryd.func13, Tryd.ntmps13
  go_wp2_with fail
  go_loop [1, 5] (fun t _ => ∃ k : Nat, k ≤ i ∧ t = .int .i64 (k : Int) ∧ Hid (rootOf zs k = rootOf zs i)) (fun t _ => (intOf t).toNat)
  case atStart => exact ⟨i, Nat.le_refl _, rfl, Lib.hid rfl⟩
  case round =>
    obtain ⟨k, hk, rfl, HR⟩ := hrel
    rcases hq : linkOf zs k with _ | j
    · have HQ := Lib.hid hq
      have HC := Lib.hid (HL.out k (by omega))
      have e1 : linkI zs k = -1 := by simp [linkI, hq]
      rw [e1] at HC
      clear hq e1
      go_wp2_with fail
      refine HC.out.mono ?_
      rintro e w' ⟨rfl, rfl⟩
      go_wp2_with fail
      go_ret
      exact ⟨by rw [← HR.out, root_none HQ.out]; rfl, rfl⟩
    · have HQ := Lib.hid hq
      have hlt := linkOf_lt hq
      have HC := Lib.hid (HL.out k (by omega))
      have e1 : linkI zs k = (j : Int) := by simp [linkI, hq]
      rw [e1] at HC
      clear hq e1
      go_wp2_with fail
      refine HC.out.mono ?_
      rintro e w' ⟨rfl, rfl⟩
      go_wp2_with fail
      have HRR : Hid (∃ r : Nat, r ≤ i ∧ Value.int .i64 (j : Int) = .int .i64 (r : Int) ∧ Hid (rootOf zs r = rootOf zs i)) := Lib.hid ⟨j, by omega, rfl, Lib.hid (by rw [← root_some HQ.out]; exact HR.out)⟩
      go_round
      case rel => first | exact HRR.out | ((repeat apply Exists.intro); exact ⟨HRR.out, rfl⟩)
      case measure => simp [intOf]; omega
end Go.Proofs.YtijbmfmcpcpcaaaDoorR.lk
