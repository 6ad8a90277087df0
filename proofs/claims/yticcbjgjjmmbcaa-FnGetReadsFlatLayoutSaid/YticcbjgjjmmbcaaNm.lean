/-
  n011_236's zzNoLinks, zzItoa and zzName over this seat's program: the name of a symbol is a function of its index alone.
  Conditions: the index is below 10000.
-/
import Derived.Test.YticcbjgjjmmbcaaRefs
import Derived.Laws.BytesArg
namespace Go.Proofs.Yticcbjgjjmmbcaa.arr
open Go.ChangeShapes Go.WideShapes Go.ChangeAt Go.RowKit
open kit chain arena cut

def NoLinksOk (w : World) (n : Nat) (e : Ending) (w' : World) : Prop :=
  e = .returned (.slice (some ⟨w.heap.size, 0, none⟩) n n) ∧ IntAt w' w.heap.size ((List.range n).map fun _ => (-1 : Int)) ∧ Kept w w'
set_option maxRecDepth 100000 in
set_option maxHeartbeats 4000000 in
theorem noLinksC (n : Nat) (w : World) (hn : n ≤ 4096) : Calls Try.prog 10 #[.int .i64 (n : Int)] w (NoLinksOk w n) := by
  obtain ⟨C, hC, hmk⟩ := makeInts n (by omega)
  have HC := Lib.hid hC
  clear hC
  go_enter Try.func10, Try.ntmps10
  go_wp2_with fail
  generalize hq : w.heap.size = q at *
  have HQ := Lib.hid hq
  clear hq
  have HST : Hid (Blk (w.alloc (.cells C 3)) q 3 (fillV (fun _ => .int .i64 (-1)) (.int .i64 0) n 0) ∧ Kept w (w.alloc (.cells C 3))) := by
    refine Lib.hid ⟨?_, (Kept.refl _).alloc _⟩
    rw [← HQ.out]
    exact blkMade HC.out _
  generalize w.alloc (.cells C 3) = wa at *
  clear hmk HC
  go_loopw [4] (fun t wr => ∃ k : Nat, k ≤ n ∧ t = .int .i64 (k : Int) ∧ Blk wr q 3 (fillV (fun _ => .int .i64 (-1)) (.int .i64 0) n k) ∧ Kept w wr) (fun t _ => n - (intOf t).toNat)
  case atStart => exact ⟨0, by omega, rfl, HST.out.1, HST.out.2⟩
  case round =>
    obtain ⟨k, hk, rfl, hbl, hkp⟩ := hrel
    by_cases hlt : k < n
    · have hki : (k : Int) < (n : Int) := by omega
      have y0 : wr.cell? ⟨q, k, none⟩ = some (.int .i64 0) := (hbl.cell k).trans (fillV_at _ _ hlt)
      have z0 := hbl.free k
      have HN : Hid (Blk (wr.setCell ⟨q, k, none⟩ (.int .i64 (-1))) q 3 (fillV (fun _ => .int .i64 (-1)) (.int .i64 0) n (k + 1)) ∧ Kept w (wr.setCell ⟨q, k, none⟩ (.int .i64 (-1)))) := by
        have h1 := hbl.set k (.int .i64 (-1))
        rw [fillV_set (fun _ => Value.int .i64 (-1)) (.int .i64 0) hlt] at h1
        exact Lib.hid ⟨h1, hkp.setCell (by show w.heap.size ≤ q; have := HQ.out; omega) _⟩
      clear hbl hkp
      go_wp2_with fail
      have HRR : Hid (∃ r : Nat, r ≤ n ∧ Value.int .i64 ((k : Int) + 1) = .int .i64 (r : Int) ∧ Blk (wr.setCell ⟨q, k, none⟩ (.int .i64 (-1))) q 3 (fillV (fun _ => .int .i64 (-1)) (.int .i64 0) n r) ∧ Kept w (wr.setCell ⟨q, k, none⟩ (.int .i64 (-1)))) := Lib.hid ⟨k + 1, by omega, by go_num, HN.out⟩
      go_roundw
      case rel => first | exact HRR.out | ((repeat apply Exists.intro); exact ⟨HRR.out, rfl⟩)
      case measure => simp [intOf]; omega
    · obtain rfl : k = n := by omega
      have HBL := Lib.hid hbl
      have HKP := Lib.hid hkp
      clear hbl hkp
      go_wp2_with fail
      go_ret
      exact ⟨by rw [HQ.out]; rfl, by rw [HQ.out]; exact IntAt.of_fill (f := fun _ => -1) HBL.out, HKP.out⟩

/-- the last t digits of X, as bytes -/
def low (X : Nat) : Nat → List Int
  | 0 => []
  | t + 1 => (48 + ((X / 10 ^ t % 10 : Nat) : Int)) :: low X t
theorem low_length (X t : Nat) : (low X t).length = t := by
  induction t with
  | zero => rfl
  | succ t ih => simp [low, ih]
def cellsT (X t : Nat) : List Value := (List.replicate (24 - t) (0 : Int) ++ low X t).map (Value.int .u8)
theorem cellsT_set (X t : Nat) (h : t < 24) : (cellsT X t).set (24 - t - 1) (.int .u8 (48 + ((X / 10 ^ t % 10 : Nat) : Int))) = cellsT X (t + 1) := by
  unfold cellsT
  have e : 24 - t = (24 - (t + 1)) + 1 := by omega
  rw [e, List.replicate_succ', List.append_assoc]
  simp only [List.map_append, List.map_cons, List.map_nil, low, List.cons_append, List.nil_append]
  have hl : ((List.replicate (24 - (t + 1)) (0 : Int)).map (Value.int .u8)).length = 24 - (t + 1) := by simp
  rw [show 24 - (t + 1) + 1 - 1 = 24 - (t + 1) by omega, List.set_append_right _ _ (by rw [hl]; omega), hl, Nat.sub_self]
  rfl
theorem cellsT_at (X t : Nat) (h : t < 24) : (cellsT X t)[24 - t - 1]? = some (.int .u8 0) := by
  unfold cellsT
  rw [List.map_append, List.getElem?_append_left (by simp; omega), List.getElem?_map, List.getElem?_replicate, if_pos (by omega)]
  rfl

def ndig (X : Nat) : Nat := if X < 10 then 1 else if X < 100 then 2 else if X < 1000 then 3 else 4
theorem ndig_eq {X t : Nat} (h0 : 1 ≤ X) (hX : X < 10000) (ht : t ≤ 4) (h1 : X / 10 ^ t = 0) (h2 : ∀ s, s < t → X / 10 ^ s ≠ 0) : t = ndig X := by
  have e : t = 0 ∨ t = 1 ∨ t = 2 ∨ t = 3 ∨ t = 4 := by omega
  unfold ndig
  rcases e with rfl | rfl | rfl | rfl | rfl
  · simp only [Nat.pow_zero, Nat.div_one] at h1; omega
  · have : X / 10 = 0 := h1
    rw [if_pos (by omega)]
  · have : X / 100 = 0 := h1
    have h3 : X / 10 ≠ 0 := h2 1 (by omega)
    rw [if_neg (by omega), if_pos (by omega)]
  · have : X / 1000 = 0 := h1
    have h3 : X / 100 ≠ 0 := h2 2 (by omega)
    rw [if_neg (by omega), if_neg (by omega), if_pos (by omega)]
  · have h3 : X / 1000 ≠ 0 := h2 3 (by omega)
    rw [if_neg (by omega), if_neg (by omega), if_neg (by omega)]
def itoaS (X : Nat) : ByteArray := if X = 0 then ⟨#[48]⟩ else strOfNums (low X (ndig X))
theorem div_succ (X t : Nat) : X / 10 ^ (t + 1) = X / 10 ^ t / 10 := by rw [Nat.pow_succ, Nat.div_div_eq_div_mul]
theorem cellsT_low {X t i : Nat} (ht : t ≤ 24) (hi : i < t) : (cellsT X t)[24 - t + i]? = some (.int .u8 ((low X t).getD i 0)) := by
  have hl := low_length X t
  unfold cellsT
  rw [List.map_append, List.getElem?_append_right (by simp)]
  simp [hl, hi]

theorem sl23 (q : Nat) (W : World) : (Instr.sliceAt 56 (.pointer (some ⟨q, 0, none⟩)) (some (.int .i64 23)) none none).run Try.prog W = .ok (.slice (some ⟨q, 23, none⟩) 1 1) W := by kernel_rfl
theorem sl22 (q : Nat) (W : World) : (Instr.sliceAt 56 (.pointer (some ⟨q, 0, none⟩)) (some (.int .i64 22)) none none).run Try.prog W = .ok (.slice (some ⟨q, 22, none⟩) 2 2) W := by kernel_rfl
theorem sl21 (q : Nat) (W : World) : (Instr.sliceAt 56 (.pointer (some ⟨q, 0, none⟩)) (some (.int .i64 21)) none none).run Try.prog W = .ok (.slice (some ⟨q, 21, none⟩) 3 3) W := by kernel_rfl
theorem sl20 (q : Nat) (W : World) : (Instr.sliceAt 56 (.pointer (some ⟨q, 0, none⟩)) (some (.int .i64 20)) none none).run Try.prog W = .ok (.slice (some ⟨q, 20, none⟩) 4 4) W := by kernel_rfl
theorem slT (q t : Nat) (W : World) (h0 : 1 ≤ t) (h : t ≤ 4) : (Instr.sliceAt 56 (.pointer (some ⟨q, 0, none⟩)) (some (.int .i64 ((24 - t : Nat) : Int))) none none).run Try.prog W = .ok (.slice (some ⟨q, 24 - t, none⟩) t t) W := by
  have e : t = 1 ∨ t = 2 ∨ t = 3 ∨ t = 4 := by omega
  rcases e with rfl | rfl | rfl | rfl
  · exact sl23 q W
  · exact sl22 q W
  · exact sl21 q W
  · exact sl20 q W

set_option maxRecDepth 100000 in
set_option maxHeartbeats 4000000 in
theorem itoaC (X : Nat) (w : World) (hX : X < 10000) : Calls Try.prog 17 #[.int .i64 (X : Int)] w fun e w' => e = .returned (.string (itoaS X)) ∧ Kept w w' := by
  by_cases hX0 : X = 0
  · subst hX0
    have e : itoaS 0 = ⟨#[48]⟩ := by simp [itoaS]
    rw [e]
    go_enter Try.func17, Try.ntmps17
    go_wp2_with fail
    go_ret
    exact ⟨rfl, Kept.refl _⟩
  have hX1 : 1 ≤ X := by omega
  clear hX0
  go_enter Try.func17, Try.ntmps17
  go_wp2_with fail
  generalize hq : w.heap.size = q at *
  have HQ := Lib.hid hq
  have HST : Hid (Blk (w.alloc (.cells #[.int .u8 0, .int .u8 0, .int .u8 0, .int .u8 0, .int .u8 0, .int .u8 0, .int .u8 0, .int .u8 0, .int .u8 0, .int .u8 0, .int .u8 0, .int .u8 0, .int .u8 0, .int .u8 0, .int .u8 0, .int .u8 0, .int .u8 0, .int .u8 0, .int .u8 0, .int .u8 0, .int .u8 0, .int .u8 0, .int .u8 0, .int .u8 0] 56)) q 56 (cellsT X 0) ∧ Kept w (w.alloc (.cells #[.int .u8 0, .int .u8 0, .int .u8 0, .int .u8 0, .int .u8 0, .int .u8 0, .int .u8 0, .int .u8 0, .int .u8 0, .int .u8 0, .int .u8 0, .int .u8 0, .int .u8 0, .int .u8 0, .int .u8 0, .int .u8 0, .int .u8 0, .int .u8 0, .int .u8 0, .int .u8 0, .int .u8 0, .int .u8 0, .int .u8 0, .int .u8 0] 56))) := Lib.hid ⟨hq ▸ Blk.new w 56 (cellsT X 0), (Kept.refl _).alloc _⟩
  clear hq
  generalize w.alloc (.cells #[.int .u8 0, .int .u8 0, .int .u8 0, .int .u8 0, .int .u8 0, .int .u8 0, .int .u8 0, .int .u8 0, .int .u8 0, .int .u8 0, .int .u8 0, .int .u8 0, .int .u8 0, .int .u8 0, .int .u8 0, .int .u8 0, .int .u8 0, .int .u8 0, .int .u8 0, .int .u8 0, .int .u8 0, .int .u8 0, .int .u8 0, .int .u8 0] 56) = wa at *
  go_loopw [0, 4] (fun t0 t4 wr => ∃ t y : Nat, t ≤ 4 ∧ t0 = .int .i64 (y : Int) ∧ t4 = .int .i64 (24 - (t : Int)) ∧ Hid (y = X / 10 ^ t) ∧ Hid (∀ s, s < t → X / 10 ^ s ≠ 0) ∧ Blk wr q 56 (cellsT X t) ∧ Kept w wr) (fun t0 _ _ => (intOf t0).toNat)
  case atStart => exact ⟨0, X, by omega, rfl, rfl, Lib.hid (by simp), Lib.hid (fun s hs => absurd hs (by omega)), HST.out.1, HST.out.2⟩
  case round =>
    obtain ⟨t, y, ht, rfl, rfl, HY, HN, hbl, hkp⟩ := hrel
    have HBL := Lib.hid hbl
    have HKP := Lib.hid hkp
    clear hbl hkp HST
    by_cases hy : 0 < y
    · have ht4 : t < 4 := by
        rcases Nat.lt_or_ge t 4 with h | h
        · exact h
        · obtain rfl : t = 4 := by omega
          have h1 := HY.out
          have : X / 10000 = 0 := by omega
          have h2 : y = X / 10000 := h1
          omega
      have hyX : y ≤ 10000 := by rw [HY.out]; exact Nat.le_trans (Nat.div_le_self _ _) (by omega)
      have y0 : wr.cell? ⟨q, 24 - t - 1, none⟩ = some (.int .u8 0) := (HBL.out.cell _).trans (cellsT_at X t (by omega))
      have z0 := HBL.out.free (24 - t - 1)
      obtain ⟨p, hp⟩ : ∃ p, p = 24 - t - 1 := ⟨_, rfl⟩
      have hpi : (24 : Int) - (t : Int) - 1 = (p : Int) := by omega
      rw [← hp] at y0 z0
      have HN2 : Hid (Blk (wr.setCell ⟨q, p, none⟩ (.int .u8 (48 + (y : Int) % 10))) q 56 (cellsT X (t + 1)) ∧ Kept w (wr.setCell ⟨q, p, none⟩ (.int .u8 (48 + (y : Int) % 10)))) := by
        have h1 := HBL.out.set (24 - t - 1) (.int .u8 (48 + ((X / 10 ^ t % 10 : Nat) : Int)))
        rw [cellsT_set X t (by omega), ← hp, ← HY.out] at h1
        refine Lib.hid ⟨?_, HKP.out.setCell (by show w.heap.size ≤ q; have := HQ.out; omega) _⟩
        have e : (((y % 10 : Nat) : Nat) : Int) = (y : Int) % 10 := by omega
        rw [e] at h1
        exact h1
      have hp23 : p ≤ 23 := by omega
      have hlt : t ≤ 24 := by omega
      have HRR : Hid (∃ t2 y2 : Nat, t2 ≤ 4 ∧ Value.int .i64 ((y : Int) / 10) = .int .i64 (y2 : Int) ∧ Value.int .i64 (p : Int) = .int .i64 (24 - (t2 : Int)) ∧ Hid (y2 = X / 10 ^ t2) ∧ Hid (∀ s, s < t2 → X / 10 ^ s ≠ 0) ∧ Blk (wr.setCell ⟨q, p, none⟩ (.int .u8 (48 + (y : Int) % 10))) q 56 (cellsT X t2) ∧ Kept w (wr.setCell ⟨q, p, none⟩ (.int .u8 (48 + (y : Int) % 10)))) := Lib.hid ⟨t + 1, y / 10, by omega, by congr 1, by congr 1; omega, Lib.hid (by rw [div_succ, HY.out]), Lib.hid (fun s hs => by
        rcases Nat.lt_or_ge s t with h | h
        · exact HN.out s h
        · obtain rfl : s = t := by omega
          have := HY.out
          omega), HN2.out.1, HN2.out.2⟩
      clear hp
      go_wp2_with fail
      go_roundw
      case rel => first | exact HRR.out | ((repeat apply Exists.intro); exact ⟨HRR.out, rfl⟩)
      case measure => simp [intOf]; omega
    · obtain rfl : y = 0 := by omega
      have HT := Lib.hid (ndig_eq hX1 hX ht HY.out.symm HN.out)
      have hconv : ∀ W : World, W = wr → (convert 57 9 (.slice (some ⟨q, 24 - t, none⟩) t t)).run Try.prog W = .ok (.string (strOfNums (low X t))) W := fun W hW => by
        subst hW
        exact run_convert_bytes_arg (P := Try.prog) W 57 5 Try.underlying57 Try.underlying5 q (24 - t) t t (low X t) (low_length X t) (fun i hi => by rw [HBL.out.cell, cellsT_low (by omega) hi]) 9 Try.underlying9
      have hcw := hconv wr rfl
      clear hconv
      have ht1 : 1 ≤ t := by
        rcases Nat.eq_zero_or_pos t with e | e
        · have h1 := HY.out
          rw [e] at h1
          simp only [Nat.pow_zero, Nat.div_one] at h1
          omega
        · exact e
      have hsl := slT q t wr ht1 ht
      obtain ⟨p, hp⟩ : ∃ p, p = 24 - t := ⟨_, rfl⟩
      rw [← hp] at hsl hcw
      have hpi : (24 : Int) - (t : Int) = (p : Int) := by omega
      rw [hpi]
      have e0 : ((0 : Nat) : Int) = 0 := rfl
      rw [e0]
      clear hpi hp e0
      go_wp2_with fail
      go_ret
      refine ⟨?_, HKP.out⟩
      have hi : itoaS X = strOfNums (low X t) := by unfold itoaS; rw [if_neg (by omega), HT.out]
      rw [hi]
      rfl
theorem itoaS_size (X : Nat) : (itoaS X).size ≤ 4 := by
  unfold itoaS
  split
  · show (1 : Nat) ≤ 4; omega
  · have h : (strOfNums (low X (ndig X))).size = ndig X := by
      have := low_length X (ndig X)
      simp only [strOfNums, ByteArray.size]
      simp [this]
    rw [h]
    unfold ndig
    split
    · omega
    · split
      · omega
      · split <;> omega
/-- the name of symbol X -/
def nameS (X : Nat) : ByteArray := ⟨#[115]⟩ ++ itoaS X
theorem nameC (X : Nat) (w : World) (hX : X < 10000) : Calls Try.prog 13 #[.int .i64 (X : Int)] w fun e w' => e = .returned (.string (nameS X)) ∧ Kept w w' := by
  have HC := Lib.hid (itoaC X w hX)
  unfold nameS
  go_enter Try.func13, Try.ntmps13
  go_wp2_with fail
  refine HC.out.mono ?_
  rintro e w' ⟨rfl, hk⟩
  have HK := Lib.hid hk
  clear hk
  have hs := itoaS_size X
  go_wp2_with fail
  go_ret
  exact ⟨rfl, HK.out⟩
end Go.Proofs.Yticcbjgjjmmbcaa.arr
