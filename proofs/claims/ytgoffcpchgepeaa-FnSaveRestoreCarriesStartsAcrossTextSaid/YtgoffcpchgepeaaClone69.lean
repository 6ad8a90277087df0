/-
  The contract of the law file's copying helper over this seat's program: nil stays nil, any other slice comes back as a fresh row with the same elements.
  Conditions: the slice is readable and at most 2^32 long.
-/
import Derived.Test.YtgoffcpchgepeaaBlk
import Derived.LoopTactic
import Derived.OwnWalk
import Derived.Deep.OwnRows
import Derived.Lib.LazyBuf
import Derived.Laws.CopyOwn
namespace Go.Proofs.Ytgoffcpchgepeaa.clone69
open Go.ChangeShapes Go.WideShapes Go.ChangeAt Go.RowKit
open kit

theorem info : (Try.prog.info? 5).map (fun i => (i.zero, i.size, i.bytes)) = some (some (.int .u8 0), 1, 1) := by kernel_rfl

theorem size1 : (Try.prog.info? 5).map (·.size) = some 1 := by kernel_rfl

/-- what comes back: a row of the call's own that reads as xs; nil exactly for nil -/
def Cloned (w : World) (A : Option Addr) (n : Nat) (xs : List Int) (e : Ending) (w' : World) : Prop :=
  ∃ a' : Option Addr, e = .returned (.slice a' n n) ∧ w'.ownsRow w.heap.size 5 1 (.slice a' n n) n (xs.map (Value.int .u8)) ∧ (a' = none ↔ A = none) ∧ Kept w w'

set_option maxRecDepth 100000 in
set_option maxHeartbeats 1000000 in
theorem run (A : Option Addr) (n cap : Nat) (xs : List Int) (w : World) (hr : Row w A n cap (xs.map (Value.int .u8))) (hn : n ≤ 4294967296) :
    Calls Try.prog 29 #[.slice A n cap] w (Cloned w A n xs) := by
  have hlen : xs.length = n := by simpa using hr.1
  have hz : A = none → n = 0 := fun h => by have := hr.2.2.2.1 h; have := hr.2.1; omega
  have heq := fun w : World => Go.run_eql_slice_nil (P := Try.prog) w 22 5 A n cap Try.underlying22
  have HR := Lib.hid hr
  have HL := Lib.hid hlen
  clear hr hlen
  rcases A with _ | ad
  · obtain rfl : n = 0 := hz rfl
    have hx : xs = [] := List.eq_nil_of_length_eq_zero HL.out
    subst hx
    simp only [Option.isNone] at heq
    clear hz
    go_enter Try.func29, Try.ntmps29
    go_wp2
    go_ret
    exact ⟨none, rfl, World.ownsRow_nil _ _ _ _, by simp, Kept.refl _⟩
  · simp only [Option.isNone] at heq
    clear hz
    have hmk := fun wx : World => run_make_row' (P := Try.prog) 22 5 (.int .u8 0) 1 Try.underlying22 info rfl .i64 .i64 n (by omega) (by omega) wx
    have hmc : (madeCells #[Value.int .u8 0] n).toList = List.replicate n (.int .u8 0) := toList_madeCells_one _ n
    have HM := Lib.hid hmc
    clear hmc
    generalize hC : madeCells #[Value.int .u8 0] n = C at *
    have hC0 := Lib.hid hC
    clear hC
    have hCl : C = (List.replicate n (Value.int .u8 0)).toArray := by rw [← Array.toList_inj, HM.out]
    have hblk : Blk (w.alloc (.cells C 5)) w.heap.size 5 (List.replicate n (Value.int .u8 0)) := by rw [hCl]; exact Blk.new _ _ _
    have hsrc : 0 < xs.length → ∀ (j : Nat) (z : Int), xs[j]? = some z → (w.alloc (.cells C 5)).cell? (ad.add j) = some (.int .u8 z) := by
      intro hp j z hj
      have hpn : 0 < n := by rw [← HL.out]; exact hp
      obtain ⟨b, off, hA, hbl, hcell⟩ := HR.out.2.2.2.2 hpn
      injection hA with hA
      subst hA
      obtain ⟨hj1, hj2⟩ := List.getElem?_eq_some_iff.1 hj
      have e : (⟨b, off, none⟩ : Addr).add j = ⟨b, off + j, none⟩ := by
        unfold Addr.add
        by_cases h : j = 0 <;> simp [h]
      rw [e, World.cell?_alloc_lt w _ _ hbl, hcell j (by simpa using hj1)]
      simp [hj2]
    have HF := Lib.hid hsrc
    clear hsrc
    have HB := Lib.hid hblk
    have HCl := Lib.hid hCl
    clear hblk hCl
    go_enter Try.func29, Try.ntmps29
    go_wp2_with (refine wpList_copy_splice (o := ⟨some 11, _, _, _, _, _⟩) rfl (.tmp 9) (.tmp 10) 22 22 rfl 5 Try.underlying22 size1 (some ⟨w.heap.size, 0, none⟩) (some ad) n n n cap rfl rfl w.heap.size 0 (List.replicate n (Value.int .u8 0)) 5 HB.out (xs.map (Value.int .u8)) ?c1 ?c2 ?c3 ?c4 w.heap.size w ((Kept.refl w).alloc _).below (Nat.le_refl _) ?_)
    case c1 => rw [List.length_map, HL.out]; exact (Nat.min_self n).symm
    case c2 => first | exact HF.out | simpa using HF.out
    case c3 => simp [HL.out]
    case c4 =>
      intro v hv
      obtain ⟨x, _, rfl⟩ := List.mem_map.1 hv
      rfl
    intro w2 hw2 hbel
    have HW := Lib.hid hw2
    clear hw2
    go_wp2
    go_ret
    have hx : splice (List.replicate n (Value.int .u8 0)) 0 (xs.map (Value.int .u8)) = xs.map (Value.int .u8) := by
      have := HL.out
      simp [splice, this]
    have h2 := HW.out.out
    rw [hx] at h2
    refine ⟨some ⟨w.heap.size, 0, none⟩, rfl, ?_, by simp, hbel⟩
    refine ⟨by simp [HL.out], Or.inr ⟨w.heap.size, n, _, rfl, Nat.le_refl _, h2, Nat.le_refl _, by unfold maxLen; omega, by simp [HL.out], ?_⟩⟩
    simp only [Nat.mul_one]
    rw [List.take_of_length_le (by simp [HL.out])]
end Go.Proofs.Ytgoffcpchgepeaa.clone69
