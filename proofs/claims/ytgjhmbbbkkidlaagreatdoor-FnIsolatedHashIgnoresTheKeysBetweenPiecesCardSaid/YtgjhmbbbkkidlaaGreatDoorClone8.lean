/-
  The contract of the law file's copying helper over this seat's program: nil stays nil, any other slice comes back as a fresh row with the same elements.
  Conditions: the slice is readable and at most 2^32 long.
-/
import Derived.Test.YtgjhmbbbkkidlaaGreatDoorBlk
import Derived.LoopTactic
import Derived.OwnWalk
import Derived.Deep.OwnRows
import Derived.Lib.LazyBuf
namespace Go.Proofs.YtgjhmbbbkkidlaaGreatDoor.clone8
open Go.ChangeShapes Go.WideShapes Go.ChangeAt Go.RowKit
open kit

theorem info : (Tryz.prog.info? 5).map (fun i => (i.zero, i.size, i.bytes)) = some (some (.int .u8 0), 1, 1) := by kernel_rfl

/-- what comes back: a row of the call's own that reads as xs; nil exactly for nil -/
def Cloned (w : World) (A : Option Addr) (n : Nat) (xs : List Int) (e : Ending) (w' : World) : Prop :=
  ∃ a' : Option Addr, e = .returned (.slice a' n n) ∧ w'.ownsRow w.heap.size 5 1 (.slice a' n n) n (xs.map (Value.int .u8)) ∧ (a' = none ↔ A = none) ∧ Kept w w'

theorem set_mid {α : Type} (l r : List α) (a b : α) : (l ++ a :: r).set l.length b = l ++ b :: r := by simp

theorem set_take (xs : List Int) (k : Nat) (hk : k < xs.length) (m : Nat) (hm : xs.length = m) :
    ((xs.take k ++ List.replicate (m - k) 0).map (Value.int .u8)).set k (.int .u8 (xs.getD k 0)) = (xs.take (k + 1) ++ List.replicate (m - (k + 1)) 0).map (Value.int .u8) := by
  have e1 : m - k = (m - (k + 1)) + 1 := by omega
  have e3 : xs.getD k 0 = xs[k] := by simp [hk]
  have e4 : ((xs.take k).map (Value.int .u8)).length = k := by simp; omega
  rw [e1, List.replicate_succ, e3, List.take_succ_eq_append_getElem hk]
  simp only [List.map_append, List.map_cons, List.append_assoc, List.cons_append, List.nil_append]
  have h := set_mid ((xs.take k).map (Value.int .u8)) ((List.replicate (m - (k + 1)) 0).map (Value.int .u8)) (.int .u8 0) (.int .u8 xs[k])
  rw [e4] at h
  exact h

set_option maxHeartbeats 1000000 in
theorem run (A : Option Addr) (n cap : Nat) (xs : List Int) (w : World) (hr : Row w A n cap (xs.map (Value.int .u8))) (hn : n ≤ 4294967296) :
    Calls Tryz.prog 9 #[.slice A n cap] w (Cloned w A n xs) := by
  have hlen : xs.length = n := by simpa using hr.1
  have hz : A = none → n = 0 := fun h => by have := hr.2.2.2.1 h; have := hr.2.1; omega
  have heq := fun w : World => Go.run_eql_slice_nil (P := Tryz.prog) w 24 5 A n cap Tryz.underlying24
  have HR := Lib.hid hr
  have HL := Lib.hid hlen
  clear hr hlen
  rcases A with _ | ad
  · obtain rfl : n = 0 := hz rfl
    have hx : xs = [] := List.eq_nil_of_length_eq_zero HL.out
    subst hx
    simp only [Option.isNone] at heq
    clear hz
    go_enter Tryz.func9, Tryz.ntmps9
    go_wp2
    go_ret
    exact ⟨none, rfl, World.ownsRow_nil _ _ _ _, by simp, Kept.refl _⟩
  · simp only [Option.isNone] at heq
    clear hz
    have hmk := fun wx : World => run_make_row' (P := Tryz.prog) 24 5 (.int .u8 0) 1 Tryz.underlying24 info rfl .i64 .i64 n (by omega) (by omega) wx
    have hmc : (madeCells #[Value.int .u8 0] n).toList = List.replicate n (.int .u8 0) := toList_madeCells_one _ n
    have HM := Lib.hid hmc
    clear hmc
    generalize hC : madeCells #[Value.int .u8 0] n = C at *
    have hC0 := Lib.hid hC
    clear hC
    go_enter Tryz.func9, Tryz.ntmps9
    go_wp2
    go_loopw [4] (fun t wr => ∃ k : Nat, k ≤ n ∧ t = .int .i64 k ∧ Blk wr w.heap.size 5 ((xs.take k ++ List.replicate (n - k) 0).map (Value.int .u8)) ∧ Kept w wr) (fun t _ => n - (intOf t).toNat)
    case atStart =>
      refine ⟨0, by omega, rfl, ?_, (Kept.refl _).alloc _⟩
      have e : C = (((xs.take 0 ++ List.replicate (n - 0) 0).map (Value.int .u8))).toArray := by
        rw [← Array.toList_inj, HM.out]; simp
      rw [e]
      exact Blk.new _ _ _
    case round =>
      obtain ⟨k, hk, rfl, hb, hkept⟩ := hrel
      by_cases hlt : k < n
      · obtain ⟨b, off, hA, hbl, hcell⟩ := HR.out.2.2.2.2 (by omega)
        injection hA with hA
        subst hA
        have hkx : k < xs.length := by rw [HL.out]; exact hlt
        have hck : wr.cell? ⟨b, off + k, none⟩ = some (.int .u8 (xs.getD k 0)) := by
          have := hkept.cell (hcell k (by simpa using hkx))
          rw [this]; simp [hkx]
        have hcw : wr.cell? ⟨w.heap.size, k, none⟩ = some (.int .u8 0) := by
          rw [hb.cell]
          simp [List.getElem?_append, HL.out, List.getElem?_replicate, Nat.min_eq_left hk]
          omega
        have hfw := hb.free k
        have hset := hb.set k (.int .u8 (xs.getD k 0))
        rw [set_take xs k hkx n HL.out] at hset
        have hkept2 := hkept.setCell (p := ⟨w.heap.size, k, none⟩) (Nat.le_refl _) (.int .u8 (xs.getD k 0))
        have HB := Lib.hid hset
        have HK := Lib.hid hkept2
        clear hset hkept2 hcell hb hkept hbl
        generalize xs.getD k 0 = x at *
        go_wp2
        go_roundw
        case rel =>
          have hR : ∃ q : Nat, q ≤ n ∧ Value.int .i64 ((k : Int) + 1) = .int .i64 (q : Int) ∧ Blk (wr.setCell ⟨w.heap.size, k, none⟩ (.int .u8 x)) w.heap.size 5 ((xs.take q ++ List.replicate (n - q) 0).map (Value.int .u8)) ∧ Kept w (wr.setCell ⟨w.heap.size, k, none⟩ (.int .u8 x)) :=
            ⟨k + 1, by omega, by go_num, HB.out, HK.out⟩
          first | exact hR | ((repeat apply Exists.intro); exact ⟨hR, rfl⟩)
        case measure => simp [intOf]; omega
      · obtain rfl : k = n := by omega
        go_wp2
        go_ret
        refine ⟨some ⟨w.heap.size, 0, none⟩, rfl, ?_, by simp, hkept⟩
        have hx : (xs.take k ++ List.replicate (k - k) 0) = xs := by
          rw [Nat.sub_self, List.replicate_zero, List.append_nil, List.take_of_length_le (by rw [HL.out]; omega)]
        rw [hx] at hb
        refine ⟨by simp [HL.out], Or.inr ⟨w.heap.size, k, _, rfl, Nat.le_refl _, hb, Nat.le_refl _, by unfold maxLen; omega, by simp [HL.out], ?_⟩⟩
        simp only [Nat.mul_one]
        rw [List.take_of_length_le (by simp [HL.out])]
end Go.Proofs.YtgjhmbbbkkidlaaGreatDoor.clone8
