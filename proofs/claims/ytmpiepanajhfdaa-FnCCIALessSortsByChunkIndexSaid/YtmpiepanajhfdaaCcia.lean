/-
  Contracts of the crossChunkImportArray helpers over this seat's program: building the array from chunk indices, and Less.
  Conditions: at most 131072 chunk indices.
-/
import Derived.Test.YtmpiepanajhfdaaBlk
import Derived.LoopTactic
import Derived.OwnWalk
import Derived.Deep.QuietTactic
import Derived.BigQuiet
namespace Go.Proofs.Ytmpiepanajhfdaa.ccia
open Go.ChangeShapes Go.WideShapes Go.ChangeAt Go.RowKit
open kit

theorem info50 : (Try.prog.info? 50).map (fun i => (i.zero, i.size, i.bytes)) = some (some (.agg #[.slice none 0 0, .int .u32 0]), 2, 32) := by kernel_rfl

/-- the cells of an array whose chunk indices are xs -/
def cellsOf (xs : List Int) : List Value := xs.flatMap fun x => [.slice none 0 0, .int .u32 x]
theorem cellsOf_nil : cellsOf [] = [] := rfl
theorem cellsOf_snoc (xs : List Int) (x : Int) : cellsOf (xs ++ [x]) = cellsOf xs ++ [.slice none 0 0, .int .u32 x] := by simp [cellsOf]
theorem cellsOf_length (xs : List Int) : (cellsOf xs).length = xs.length * 2 := by
  induction xs with
  | nil => rfl
  | cons x r ih => simp [cellsOf] at ih ⊢; omega
theorem cellsOf_at (xs : List Int) (k : Nat) (hk : k < xs.length) : (cellsOf xs)[k * 2]? = some (.slice none 0 0) ∧ (cellsOf xs)[k * 2 + 1]? = some (.int .u32 (xs.getD k 0)) := by
  induction xs generalizing k with
  | nil => simp at hk
  | cons x r ih =>
    cases k with
    | zero => simp [cellsOf]
    | succ k =>
      have h := ih k (by simpa using hk)
      have e1 : (k + 1) * 2 = k * 2 + 1 + 1 := by omega
      have e2 : cellsOf (x :: r) = .slice none 0 0 :: .int .u32 x :: cellsOf r := rfl
      rw [e1, e2]
      simpa using h

theorem mk36 (x : Int) (w : World) : Calls Try.prog 36 #[.int .u32 x] w fun e w' => e = .returned (.agg #[.slice none 0 0, .int .u32 x]) ∧ Kept w w' := by
  go_enter Try.func36, Try.ntmps36
  go_wp2
  exact bodyPost_ret (v := .agg #[.slice none 0 0, .int .u32 x]) (by simp [results, Try.results36, go_sem]) rfl ⟨rfl, (Kept.refl _).alloc _⟩

/-- what building leaves: a row of the call's own -/
def Built (w : World) (n : Nat) (xs : List Int) (e : Ending) (w2 : World) : Prop :=
  ∃ v, e = .returned v ∧ w2.ownsRow w.heap.size 50 2 v n (cellsOf xs) ∧ Kept w w2

theorem take_snoc (l : List Int) (k : Nat) (h : k < l.length) : l.take (k + 1) = l.take k ++ [l.getD k 0] := by
  rw [List.take_succ_eq_append_getElem h]; simp [List.getD, h]

set_option maxHeartbeats 2000000 in
theorem build (A : Option Addr) (n cap : Nat) (xs : List Int) (w : World) (hr : Row w A n cap (xs.map (Value.int .u32))) (hn : n ≤ 131072) :
    Calls Try.prog 17 #[.slice A n cap] w (Built w n xs) := by
  have hlen : xs.length = n := by simpa using hr.1
  obtain ⟨cur, hcur, hmk⟩ := make0 (T := 39) (E := 50) (size := 2) (bytes := 32) Try.underlying39 info50 n (n : Int) rfl (by omega) (by unfold maxLen; omega)
  obtain ⟨i0, hi, hz0, hz1, hz2⟩ := info_parts info50
  have HR := Lib.hid hr
  have HL := Lib.hid hlen
  have HC := Lib.hid hcur
  clear hr hlen hcur
  go_enter Try.func17, Try.ntmps17
  go_wp2
  go_loopw [3, 4] (fun v t wr => ∃ k : Nat, k ≤ n ∧ t = .int .i64 (k : Int) ∧ wr.ownsRow w.heap.size 50 2 v k (cellsOf (xs.take k)) ∧ Kept w wr) (fun _ t _ => n - (intOf t).toNat)
  case atStart =>
    exact ⟨0, by omega, rfl, World.ownsRow_made (base := w.heap.size) (e := 50) (size := 2) w cur n (Nat.le_refl _) (by unfold maxLen; omega) HC.out, (Kept.refl _).alloc _⟩
  case round =>
    obtain ⟨k, hk, rfl, hown, hkw⟩ := hrel
    have hsz := hkw.size
    by_cases hlt : k < n
    · obtain ⟨b, off, hA, hbl, hcell⟩ := HR.out.2.2.2.2 (by omega)
      subst hA
      have hkx : k < xs.length := by rw [HL.out]; exact hlt
      have hck : wr.cell? ⟨b, off + k, none⟩ = some (.int .u32 (xs.getD k 0)) := by
        have := hkw.cell (hcell k (by simpa using hkx))
        rw [this]; simp [hkx]
      have HT := Lib.hid (take_snoc xs k hkx)
      clear hcell hbl
      generalize xs.getD k 0 = x at *
      go_wp2_with fail
      refine (mk36 x _).mono ?_
      rintro e w1 ⟨rfl, hk1⟩
      have hs1 := hk1.size
      have hown1 := own_kept hown hk1
      have HK1 := Lib.hid hk1
      clear hk1 hck
      go_wp2_with (at_builtin; refine wpList_append_own _ rfl _ _ 39 rfl w.heap.size 50 i0 (.agg #[.slice none 0 0, .int .u32 0]) 2 32 Try.underlying39 hi hz0 hz1 hz2 rfl (by decide) _ _ _ rfl (hown1.alloc _) ⟨w1.heap.size, 0, none⟩ 1 1 [.slice none 0 0, .int .u32 x] rfl rfl ?c1 ?c2 ?c3 ?c4 ?c5 ?_)
      case c1 =>
        intro j u hj
        have hj2 : j = 0 ∨ j = 1 := by
          have := (List.getElem?_eq_some_iff.1 hj).1
          simp at this; omega
        rcases hj2 with rfl | rfl
        · simp at hj; subst hj; simp [Addr.add]
        · simp at hj; subst hj; simp [Addr.add]
      case c2 => intro u hu; simp at hu; rcases hu with rfl | rfl <;> rfl
      case c3 => unfold maxLen; omega
      case c4 => omega
      case c5 => simp; omega
      intro v' w2 hown' hgrow _
      have hR : ∃ q : Nat, q ≤ n ∧ Value.int .i64 ((k : Int) + 1) = .int .i64 (q : Int) ∧ w2.ownsRow w.heap.size 50 2 v' q (cellsOf (xs.take q)) ∧ Kept w w2 := by
        refine ⟨k + 1, by omega, by go_num, ?_, ?_⟩
        · rw [HT.out, cellsOf_snoc]; exact hown'
        · exact (Below.alloc (Below.trans hkw (HK1.out.below.mono hsz)) (by omega) _).grown hgrow (by simp; omega) (fun q hq => (hown1.lt q hq).1)
      have HRR := Lib.hid hR
      clear hR hown' hgrow
      go_wp2
      go_roundw
      case rel => first | exact HRR.out | ((repeat apply Exists.intro); exact ⟨HRR.out, rfl⟩)
      case measure => simp [intOf]; omega
    · obtain rfl : k = n := by omega
      have hxt : xs.take k = xs := List.take_of_length_le (by rw [HL.out]; omega)
      rw [hxt] at hown
      have HO := Lib.hid hown
      clear hxt hown
      go_wp2
      go_ret
      exact ⟨_, rfl, HO.out, hkw⟩

set_option maxHeartbeats 1000000 in
theorem less (g n c : Nat) (xs : List Int) (x y : Nat) (w : World) (hx : x < n) (hy : y < n) (hn : n ≤ 131072)
    (hc : ∀ k, k < n → w.cell? ⟨g, k * 2 + 1, none⟩ = some (.int .u32 (xs.getD k 0))) :
    Calls Try.prog 18 #[.slice (some ⟨g, 0, none⟩) n c, .int .i64 (x : Int), .int .i64 (y : Int)] w fun e w' => e = .returned (.bool (decide (xs.getD x 0 < xs.getD y 0))) ∧ Kept w w' := by
  have e1 : w.cell? ⟨g, 0 + x * 2 + 1, none⟩ = some (.int .u32 (xs.getD x 0)) := by simpa using hc x hx
  have e2 : w.cell? ⟨g, 0 + y * 2 + 1, none⟩ = some (.int .u32 (xs.getD y 0)) := by simpa using hc y hy
  have e1' := hc x hx
  have e2' := hc y hy
  have i1 : (x : Int) < (n : Int) := by omega
  have i2 : (y : Int) < (n : Int) := by omega
  have j1 : (0 : Int) ≤ (x : Int) := by omega
  have j2 : (0 : Int) ≤ (y : Int) := by omega
  clear hc
  generalize xs.getD x 0 = vx at *
  generalize xs.getD y 0 = vy at *
  go_enter Try.func18, Try.ntmps18
  go_wp2
  go_quiet (fail)
  go_wp2
  go_ret
  exact ⟨rfl, (Kept.refl _).drewN _⟩
end Go.Proofs.Ytmpiepanajhfdaa.ccia
