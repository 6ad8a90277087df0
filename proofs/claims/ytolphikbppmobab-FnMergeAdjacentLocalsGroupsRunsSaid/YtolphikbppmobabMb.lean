/-
  zzBuildMergeInput over this seat's program: the row of statements.
  Conditions: the three slices read as lists of equal length; the numbers' sum is at most 65536.
-/
import Derived.Test.YtolphikbppmobabMg
namespace Go.Proofs.Ytolphikbppmobab.mj
open Go.ChangeShapes Go.WideShapes Go.ChangeAt Go.RowKit
open kit

/-- the numbers that the first i statements bind -/
def fst (ks ds : List Nat) : Nat → Nat
  | 0 => 0
  | i + 1 => fst ks ds i + (if ks.getD i 0 < 8 then ds.getD i 0 else 0)
/-- v is the statement number i, freshly built: its blocks lie behind B -/
def IsSt (B : Nat) (w : World) (v : Value) (k : Nat) (x : Bool) (nums : List Nat) : Prop :=
  (8 ≤ k → ∃ g, B ≤ g ∧ v = PX g ∧ Blk w g 69 [.nilIface, .int .i32 0, .bool false]) ∧
  (k < 8 → ∃ g b cs, B ≤ g ∧ B ≤ b ∧ v = PL g ∧ Blk w g 49 [.slice (some ⟨b, 0, none⟩) nums.length nums.length, .int .u8 (k : Int), .bool x, .bool false] ∧ Blk w b 61 cs ∧ Dl w cs nums)
theorem IsSt.kept {B : Nat} {w w2 : World} {v : Value} {k : Nat} {x : Bool} {nums : List Nat} (h : IsSt B w v k x nums) (hk : Kept w w2) : IsSt B w2 v k x nums := by
  refine ⟨fun h8 => ?_, fun h8 => ?_⟩
  · obtain ⟨g, h1, h2, h3⟩ := h.1 h8
    exact ⟨g, h1, h2, h3.kept hk⟩
  · obtain ⟨g, b, cs, h1, h2, h3, h4, h5, h6, h7⟩ := h.2 h8
    exact ⟨g, b, cs, h1, h2, h3, h4.kept hk, h5.kept hk, h6, fun j hj => by
      obtain ⟨r, r1, r2⟩ := h7 j hj
      exact ⟨r, r1, r2.kept hk⟩⟩
theorem IsSt.far {B : Nat} {w : World} {v : Value} {k : Nat} {x : Bool} {nums : List Nat} (h : IsSt B w v k x nums) {R : Nat} {cs0 : List Value} (hR : Blk w R 36 cs0) (o : Nat) (u : Value) : IsSt B (w.setCell ⟨R, o, none⟩ u) v k x nums := by
  have ne : ∀ {g t : Nat} {cs : List Value}, Blk w g t cs → t ≠ 36 → g ≠ R := fun hg ht => hg.apart hR ht
  refine ⟨fun h8 => ?_, fun h8 => ?_⟩
  · obtain ⟨g, h1, h2, h3⟩ := h.1 h8
    exact ⟨g, h1, h2, h3.far (ne h3 (by decide)) u⟩
  · obtain ⟨g, b, cs, h1, h2, h3, h4, h5, h6, h7⟩ := h.2 h8
    exact ⟨g, b, cs, h1, h2, h3, h4.far (ne h4 (by decide)) u, h5.far (ne h5 (by decide)) u, h6, fun j hj => by
      obtain ⟨r, r1, r2⟩ := h7 j hj
      exact ⟨r, r1, r2.far (ne r2 (by decide)) u⟩⟩
/-- the first i statements lie in block R -/
def Sts (B : Nat) (w : World) (R n : Nat) (ks : List Nat) (xs : List Bool) (ds : List Nat) (i : Nat) : Prop :=
  ∃ rc, Blk w R 36 rc ∧ rc.length = n * 2 ∧ ∀ j, j < i → ∃ v, rc[j * 2]? = some v ∧ rc[j * 2 + 1]? = some (.int .i32 (j : Int)) ∧
    IsSt B w v (ks.getD j 0) (xs.getD j false) ((List.range (ds.getD j 0)).map (fst ks ds j + ·))
def Cb (w : World) (R n : Nat) (ks : List Nat) (xs : List Bool) (ds : List Nat) (t8 t9 : Value) (W : World) : Prop :=
  ∃ i : Nat, i ≤ n ∧ t9 = .int .i64 (i : Int) ∧ t8 = .int .u32 (fst ks ds i : Int) ∧ Kept w W ∧ Sts 0 W R n ks xs ds i
theorem fst_le (ks ds : List Nat) : ∀ i, fst ks ds i ≤ (ds.take i).sum
  | 0 => by simp [fst]
  | i + 1 => by
    have ih := fst_le ks ds i
    unfold fst
    have e : (ds.take (i + 1)).sum = (ds.take i).sum + ds.getD i 0 := by
      by_cases h : i < ds.length
      · rw [sum_take_succ ds i h, show ds.getD i 0 = ds[i] by rw [List.getD_eq_getElem?_getD, List.getElem?_eq_getElem h]; rfl]
      · rw [List.take_of_length_le (by omega), List.take_of_length_le (by omega), show ds.getD i 0 = 0 by rw [List.getD_eq_getElem?_getD, List.getElem?_eq_none (by omega)]; rfl]
        omega
    rw [e]
    split <;> omega
theorem Sts.step {B : Nat} {w w2 : World} {R n : Nat} {ks : List Nat} {xs : List Bool} {ds : List Nat} {i : Nat} (h : Sts B w R n ks xs ds i) (hk : Kept w w2) (hin : i < n) (v : Value)
    (hv : IsSt B w2 v (ks.getD i 0) (xs.getD i false) ((List.range (ds.getD i 0)).map (fst ks ds i + ·))) :
    Sts B ((w2.setCell ⟨R, i * 2, none⟩ v).setCell ⟨R, i * 2 + 1, none⟩ (.int .i32 (i : Int))) R n ks xs ds (i + 1) := by
  obtain ⟨rc, h1, h2, h3⟩ := h
  have hb := h1.kept hk
  have hb2 := hb.set (i * 2) v
  refine ⟨_, hb2.set (i * 2 + 1) (.int .i32 (i : Int)), by simp [h2], fun j hj => ?_⟩
  by_cases hji : j < i
  · obtain ⟨u, u1, u2, u3⟩ := h3 j hji
    refine ⟨u, ?_, ?_, ((u3.kept hk).far hb _ _).far hb2 _ _⟩
    · rw [List.getElem?_set_ne (by omega), List.getElem?_set_ne (by omega)]; exact u1
    · rw [List.getElem?_set_ne (by omega), List.getElem?_set_ne (by omega)]; exact u2
  · obtain rfl : j = i := by omega
    refine ⟨v, ?_, ?_, (hv.far hb _ _).far hb2 _ _⟩
    · rw [List.getElem?_set_ne (by omega), List.getElem?_set_self (by omega)]
    · rw [List.getElem?_set_self (by rw [List.length_set]; omega)]
end Go.Proofs.Ytolphikbppmobab.mj
