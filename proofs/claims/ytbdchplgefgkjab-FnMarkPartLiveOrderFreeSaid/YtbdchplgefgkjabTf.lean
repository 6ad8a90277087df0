/-
  The files as they lie in memory by their content, over this seat's program; the guards of FnMarkPartLiveOrderFree.
  Conditions: the files are readable.
-/
import Derived.Test.YtbdchplgefgkjabTm
namespace Go.Proofs.Ytbdchplgefgkjab.tm
open Go.ChangeShapes Go.WideShapes Go.ChangeAt Go.RowKit
open kit dfs

def DepsC (w : World) (da : Option Addr) (D : List (Nat × Nat)) : Prop :=
  0 < D.length → ∃ b off, da = some ⟨b, off, none⟩ ∧ b < w.heap.size ∧ ∀ k (h : k < D.length), w.cell? ⟨b, off + k * 2, none⟩ = some (.int .u32 (D[k].1 : Int)) ∧ w.cell? ⟨b, off + k * 2 + 1, none⟩ = some (.int .u32 (D[k].2 : Int))
def PartC (w : World) (b o : Nat) (x : Bool × List (Nat × Nat)) : Prop :=
  ∃ da dc, w.cell? ⟨b, o, none⟩ = some (.bool x.1) ∧ w.cell? ⟨b, o + 1, none⟩ = some (.slice da x.2.length dc) ∧ x.2.length ≤ dc ∧ dc ≤ maxLen ∧ (da = none → dc = 0) ∧ DepsC w da x.2 ∧ ∀ y ∈ x.2, y.1 ≤ 4294967295 ∧ y.2 ≤ 4294967295
def PartsC (w : World) (pa : Option Addr) (P : List (Bool × List (Nat × Nat))) : Prop :=
  0 < P.length → ∃ b off, pa = some ⟨b, off, none⟩ ∧ b < w.heap.size ∧ ∀ j, j < P.length → PartC w b (off + j * 2) (P.getD j (false, []))
def FileC (w : World) (b o : Nat) (P : List (Bool × List (Nat × Nat))) : Prop :=
  ∃ pa pc, w.cell? ⟨b, o, none⟩ = some (.slice pa P.length pc) ∧ P.length ≤ pc ∧ pc ≤ maxLen ∧ (pa = none → pc = 0) ∧ PartsC w pa P
def FilesC (w : World) (a : Option Addr) (n : Nat) (F : Ct) : Prop :=
  F.length = n ∧ (0 < n → ∃ b off, a = some ⟨b, off, none⟩ ∧ b < w.heap.size ∧ ∀ i, i < n → FileC w b (off + i) (F.getD i []))
section
variable {w w2 : World}
theorem DepsC.kept {da : Option Addr} {D : List (Nat × Nat)} (h : DepsC w da D) (k : Kept w w2) : DepsC w2 da D := fun hp => by
  obtain ⟨b, off, e, hb, hc⟩ := h hp
  exact ⟨b, off, e, Nat.lt_of_lt_of_le hb k.size, fun i hi => ⟨k.cell (hc i hi).1, k.cell (hc i hi).2⟩⟩
theorem PartC.kept {b o : Nat} {x : Bool × List (Nat × Nat)} (h : PartC w b o x) (k : Kept w w2) : PartC w2 b o x := by
  obtain ⟨da, dc, h1, h2, h3, h4, h5, h6, h7⟩ := h
  exact ⟨da, dc, k.cell h1, k.cell h2, h3, h4, h5, h6.kept k, h7⟩
theorem PartsC.kept {pa : Option Addr} {P : List (Bool × List (Nat × Nat))} (h : PartsC w pa P) (k : Kept w w2) : PartsC w2 pa P := fun hp => by
  obtain ⟨b, off, e, hb, hc⟩ := h hp
  exact ⟨b, off, e, Nat.lt_of_lt_of_le hb k.size, fun j hj => (hc j hj).kept k⟩
theorem FileC.kept {b o : Nat} {P : List (Bool × List (Nat × Nat))} (h : FileC w b o P) (k : Kept w w2) : FileC w2 b o P := by
  obtain ⟨pa, pc, h1, h2, h3, h4, h5⟩ := h
  exact ⟨pa, pc, k.cell h1, h2, h3, h4, h5.kept k⟩
theorem FilesC.kept {a : Option Addr} {n : Nat} {F : Ct} (h : FilesC w a n F) (k : Kept w w2) : FilesC w2 a n F := ⟨h.1, fun hp => by
  obtain ⟨b, off, e, hb, hc⟩ := h.2 hp
  exact ⟨b, off, e, Nat.lt_of_lt_of_le hb k.size, fun j hj => (hc j hj).kept k⟩⟩
/-- file i: where its parts lie -/
theorem FilesC.at_ {a : Option Addr} {n : Nat} {F : Ct} (h : FilesC w a n F) {i : Nat} (hi : i < n) : ∃ b off pa pc, a = some ⟨b, off, none⟩ ∧ b < w.heap.size ∧ w.cell? ⟨b, off + i, none⟩ = some (.slice pa (np F i) pc) ∧ np F i ≤ pc ∧ pc ≤ 9223372036854775807 ∧ (pa = none → pc = 0) ∧ PartsC w pa (F.getD i []) := by
  obtain ⟨b, off, e, hb, hc⟩ := h.2 (by omega)
  obtain ⟨pa, pc, h1, h2, h3, h4, h5⟩ := hc i hi
  unfold maxLen at h3
  exact ⟨b, off, pa, pc, e, hb, h1, h2, h3, h4, h5⟩
/-- part p of file i: whether it is kept and where its dependencies lie -/
theorem part_at {pa : Option Addr} {F : Ct} {i : Nat} (h : PartsC w pa (F.getD i [])) {p : Nat} (hp : p < np F i) : ∃ b off da dc, pa = some ⟨b, off, none⟩ ∧ b < w.heap.size ∧ w.cell? ⟨b, off + p * 2, none⟩ = some (.bool (keep F i p)) ∧ w.cell? ⟨b, off + p * 2 + 1, none⟩ = some (.slice da (deps F i p).length dc) ∧
    (deps F i p).length ≤ dc ∧ dc ≤ 9223372036854775807 ∧ (da = none → dc = 0) ∧ DepsC w da (deps F i p) ∧ ∀ y ∈ deps F i p, y.1 ≤ 4294967295 ∧ y.2 ≤ 4294967295 := by
  have hp2 : p < (F.getD i []).length := hp
  obtain ⟨b, off, e, hb, hc⟩ := h (by omega)
  obtain ⟨da, dc, h1, h2, h3, h4, h5, h6, h7⟩ := hc p hp2
  unfold maxLen at h4
  exact ⟨b, off, da, dc, e, hb, h1, h2, h3, h4, h5, h6, h7⟩
end

/-- the lengths of the parts below (k, j) are at most m -/
def Lens (F : Ct) (m k : Nat) : Prop := ∀ i, i < k → np F i ≤ m ∧ ∀ p, p < np F i → (deps F i p).length ≤ m
theorem Lens.step {F : Ct} {m k : Nat} (h : Lens F m k) (h1 : np F k ≤ m) (h2 : ∀ p, p < np F k → (deps F k p).length ≤ m) : Lens F m (k + 1) := fun i hi => by
  by_cases e : i = k
  · rw [e]; exact ⟨h1, h2⟩
  · exact h i (by omega)
def BytesB (w : World) (n : Nat) (F : Ct) (e : Ending) (w' : World) : Prop := (∃ b, e = .returned (.bool b) ∧ (b = true → n ≤ 1048576 ∧ Lens F 1048576 n)) ∧ Kept w w'
def A4 (w0 : World) (n : Nat) (F : Ct) (t7 t8 : Value) (W : World) : Prop := ∃ (k : Nat) (x : Int), k ≤ n ∧ t8 = .int .i64 (k : Int) ∧ t7 = .int .i64 x ∧ Lens F 1048576 k ∧ W = w0
def B4 (w0 : World) (F : Ct) (k : Nat) (t7 t9 : Value) (W : World) : Prop := ∃ (j : Nat) (x : Int), j ≤ np F k ∧ t9 = .int .i64 (j : Int) ∧ t7 = .int .i64 x ∧ Hid (∀ p, p < j → (deps F k p).length ≤ 1048576) ∧ W = w0

set_option maxRecDepth 100000 in
set_option maxHeartbeats 8000000 in
theorem bytes (w : World) (a : Option Addr) (n c : Nat) (F : Ct) (x1 x2 y1 y2 : Int) (h : FilesC w a n F) (hm : n ≤ 9223372036854775807) :
    Calls Try.prog 4 #[.slice a n c, .agg #[.int .u32 x1, .int .u32 x2], .agg #[.int .u32 y1, .int .u32 y2]] w (BytesB w n F) := by
  by_cases hn : n ≤ 1048576
  · have HK0 := Lib.hid (((Kept.refl w).alloc (.cells #[.int .u32 x1, .int .u32 x2] 25)).alloc (.cells #[.int .u32 y1, .int .u32 y2] 25))
    have HF := Lib.hid (h.kept HK0.out)
    clear h
    go_enter Try.func4, Try.ntmps4
    go_wp2_with fail
    generalize (w.alloc (.cells #[.int .u32 x1, .int .u32 x2] 25)).alloc (.cells #[.int .u32 y1, .int .u32 y2] 25) = w0 at *
    go_loopw [7, 8] (fun t7 t8 W => A4 w0 n F t7 t8 W) (fun _ t8 _ => n - (intOf t8).toNat)
    case atStart => exact ⟨0, _, by omega, rfl, rfl, fun i hi => absurd hi (by omega), rfl⟩
    case round =>
      obtain ⟨k, x, hk, rfl, rfl, hs, rfl⟩ := hrel
      have HS := Lib.hid hs
      clear hs
      by_cases hlt : k < n
      · obtain ⟨b, off, pa, pc, rfl, _, c0, hpc, hpm, _, hP⟩ := HF.out.at_ hlt
        have HP := Lib.hid hP
        have k0 : (k : Int) < (n : Int) := by omega
        have hnp : np F k ≤ 9223372036854775807 := by omega
        clear hP
        by_cases hm2 : np F k ≤ 1048576
        · have HN := Lib.hid (fun h2 => HS.out.step hm2 h2)
          generalize hmk : np F k = m at *
          have HMK := Lib.hid hmk
          clear hmk HS
          go_wp2_with fail
          · go_ret
            exact ⟨⟨false, rfl, fun h => by cases h⟩, HK0.out⟩
          · go_loopw [7, 9] (fun t7 t9 W => B4 wr F k t7 t9 W) (fun _ t9 _ => m - (intOf t9).toNat)
            case atStart => exact ⟨0, _, by omega, rfl, rfl, Lib.hid (fun i hi => absurd hi (by omega)), rfl⟩
            case round =>
              obtain ⟨j, x, hj, rfl, rfl, HJ, rfl⟩ := hrel
              rw [HMK.out] at hj
              by_cases hlt2 : j < m
              · obtain ⟨b2, off2, da, dc, rfl, _, c1, c2, hd1, hd2, _, _⟩ := part_at HP.out (p := j) (by rw [HMK.out]; exact hlt2)
                have j0 : (j : Int) < (m : Int) := by omega
                have HJ2 : Hid ((deps F k j).length ≤ 1048576 → ∀ p, p < j + 1 → (deps F k p).length ≤ 1048576) := Lib.hid (fun h p hp => by
                  by_cases e : p = j
                  · rw [e]; exact h
                  · exact HJ.out p (by omega))
                have hd3 : (deps F k j).length ≤ 9223372036854775807 := by omega
                clear HJ
                generalize (deps F k j).length = l at *
                by_cases hl : l ≤ 1048576
                · have HJ3 := Lib.hid (HJ2.out hl)
                  clear HJ2
                  go_wp2_with fail
                  · go_ret
                    exact ⟨⟨false, rfl, fun h => by cases h⟩, HK0.out⟩
                  · go_roundw
                    case rel => exact ⟨j + 1, _, by rw [HMK.out]; omega, by go_num, rfl, HJ3, rfl⟩
                    case measure => simp [intOf]; omega
                · clear HJ2
                  go_wp2_with fail
                  go_ret
                  exact ⟨⟨false, rfl, fun h => by cases h⟩, HK0.out⟩
              · obtain rfl : j = m := by omega
                have HN2 := Lib.hid (HN.out HJ.out)
                clear HN HJ
                go_wp2_with fail
                go_roundw
                case rel => exact ⟨k + 1, _, by omega, by go_num, rfl, HN2.out, rfl⟩
                case measure => simp [intOf]; omega
        · generalize np F k = m at *
          go_wp2_with fail
          go_ret
          exact ⟨⟨false, rfl, fun h => by cases h⟩, HK0.out⟩
      · obtain rfl : n = k := by omega
        go_wp2_with fail
        go_ret
        exact ⟨⟨true, rfl, fun _ => ⟨hn, HS.out⟩⟩, HK0.out⟩
  · clear h
    go_enter Try.func4, Try.ntmps4
    go_wp2_with fail
    go_ret
    exact ⟨⟨false, rfl, fun h => by cases h⟩, ((Kept.refl w).alloc _).alloc _⟩
end Go.Proofs.Ytbdchplgefgkjab.tm
