/-
  The contract of NumberToMinifiedName over this seat's program, and the plain numeral behind it.
  Conditions: the head alphabet has 54 bytes, the tail alphabet 64; the number is below 2^31.
-/
import Derived.Test.YtmpiepanajhfdaaBuilder
import Derived.LoopTactic
import Derived.Lib.Strings
namespace Go.Proofs.Ytmpiepanajhfdaa.names
open Go.ChangeShapes Go.WideShapes Go.ChangeAt Go.RowKit
open kit bld

def tails (tl : List UInt8) : Nat → List UInt8
  | 0 => []
  | n + 1 => tl.getD (n % 64) 0 :: tails tl (n / 64)
termination_by n => n
decreasing_by omega
theorem tails_zero (tl : List UInt8) : tails tl 0 = [] := by rw [tails]
theorem tails_succ (tl : List UInt8) (n : Nat) : tails tl (n + 1) = tl.getD (n % 64) 0 :: tails tl (n / 64) := by rw [tails]
theorem tails_len (tl : List UInt8) (n : Nat) : (tails tl n).length ≤ n := by
  induction n using Nat.strongRecOn with
  | ind n ih =>
    cases n with
    | zero => rw [tails_zero]; simp
    | succ n =>
      rw [tails_succ]
      have := ih (n / 64) (by omega)
      simp; omega
def nameOf (hd tl : List UInt8) (i : Nat) : List UInt8 := hd.getD (i % 54) 0 :: tails tl (i / 54)

theorem ext1 (s : ByteArray) (j : Nat) (h : j < s.size) : Lib.strCells (s.extract j (j + 1)) = Lib.byteCells [s.data.toList.getD j 0] := by
  have h2 : j < s.data.toList.length := by simpa using h
  have e : (s.extract j (j + 1)).data.toList = [s.data.toList.getD j 0] := by
    rw [Lib.extract_data]
    have e1 : j + 1 - j = 1 := by omega
    rw [e1, List.drop_eq_getElem_cons h2, List.getD_eq_getElem?_getD, List.getElem?_eq_getElem h2]
    rfl
  unfold Lib.strCells Lib.byteCells
  rw [e]
theorem ext1_size (s : ByteArray) (j : Nat) (h : j < s.size) : (s.extract j (j + 1)).size = 1 := by
  have := congrArg List.length (ext1 s j h)
  rw [Lib.strCells_length] at this
  simpa [Lib.byteCells] using this
theorem byteCells_append (a b : List UInt8) : Lib.byteCells (a ++ b) = Lib.byteCells a ++ Lib.byteCells b := by simp [Lib.byteCells]

theorem slice1 (s : ByteArray) (j : Nat) (h : j < s.size) (w : World) : (Instr.slice 9 (.string s) (some (.int .i64 (j : Int))) (some (.int .i64 ((j : Int) + 1))) none).run Try.prog w = .ok (.string (s.extract j (j + 1))) w := by
  have := run_slice_string (P := Try.prog) w 9 s .i64 .i64 (j : Int) ((j : Int) + 1) Try.underlying9 (by omega) (by omega) (by omega)
  have e : ((j : Int) + 1).toNat = j + 1 := by omega
  rw [Int.toNat_natCast, e] at this
  exact this

set_option maxRecDepth 100000 in
set_option maxHeartbeats 2000000 in
theorem name (head tail : ByteArray) (hh : head.size = 54) (ht : tail.size = 64) (i : Nat) (hi : i ≤ 2147483647) (w : World) :
    Calls Try.prog 10 #[.agg #[.string head, .string tail], .int .i64 (i : Int)] w fun e w' => e = .returned (.string ⟨(nameOf head.data.toList tail.data.toList i).toArray⟩) ∧ Kept w w' := by
  have hj : i % 54 < head.size := by omega
  have x1 := Lib.hid (ext1 head (i % 54) hj)
  have x2 := Lib.hid (ext1_size head (i % 54) hj)
  have hsl := slice1 head (i % 54) hj
  have hlen : (nameOf head.data.toList tail.data.toList i).length ≤ i / 54 + 1 := by
    have := tails_len tail.data.toList (i / 54)
    simp [nameOf]; omega
  have HLN := Lib.hid hlen
  have HNM := Lib.hid (show [head.data.toList.getD (i % 54) 0] ++ tails tail.data.toList (i / 54) = nameOf head.data.toList tail.data.toList i from rfl)
  clear hlen
  generalize nameOf head.data.toList tail.data.toList i = NM at *
  generalize head.data.toList.getD (i % 54) 0 = c0 at *
  have r1 : (i : Int) % 54 = ((i % 54 : Nat) : Int) := by omega
  have r2 : (i : Int) / 54 = ((i / 54 : Nat) : Int) := by omega
  have hq : i / 54 ≤ 39768215 := by omega
  generalize i % 54 = j at *
  generalize i / 54 = q0 at *
  go_enter Try.func10, Try.ntmps10
  go_wp2_with fail
  have hib : Lib.IsBuilder 66 5 (w.heap.size + 1) (w.heap.size + 1) [] ((w.alloc (.cells #[.string head, .string tail] 23)).alloc (.cells #[.pointer none, .slice none 0 0] 66)) := by
    refine Or.inl ⟨Nat.le_refl _, .slice none 0 0, ?_, World.ownsRow_nil _ _ _ _, by simp [Value.ownBlock]⟩
    have := heap_alloc_new (w.alloc (.cells #[.string head, .string tail] 23)) (.cells #[.pointer none, .slice none 0 0] 66)
    simpa using this
  refine (write (w.heap.size + 1) (w.heap.size + 1) [] _ _ hib (by rw [x2.out]; simp) (by simp)).mono ?_
  rintro e w1 ⟨rfl, hb1, hbel1⟩
  rw [x1.out, List.nil_append] at hb1
  have hcell1 : w1.cell? ⟨w.heap.size, 1, none⟩ = some (.string tail) := by
    rw [hbel1.cell (p := ⟨w.heap.size, 1, none⟩) (by simp)]
    simp
  have hk1 : Kept w w1 := Below.trans (((Kept.refl w).alloc (.cells #[.string head, .string tail] 23)).alloc (.cells #[.pointer none, .slice none 0 0] 66)).below (Below.mono hbel1 (by omega))
  have hs1 := hbel1.size
  simp only [World.size_alloc] at hs1
  have HB1 := Lib.hid hb1
  have HK1 := Lib.hid hk1
  have HE1 := Lib.hid hcell1
  clear hb1 hk1 hcell1 hbel1 hib
  go_wp2
  go_loopw [1] (fun t wr => ∃ (m : Nat) (pre : List UInt8), m ≤ 39768215 ∧ t = .int .i64 (m : Int) ∧ Lib.IsBuilder 66 5 (w.heap.size + 1) (w.heap.size + 1) (Lib.byteCells pre) wr ∧ pre ++ tails tail.data.toList m = NM ∧ Kept w wr ∧ wr.cell? ⟨w.heap.size, 1, none⟩ = some (.string tail) ∧ w.heap.size + 1 ≤ wr.heap.size) (fun t _ => (intOf t).toNat)
  case atStart => exact ⟨q0, [c0], hq, rfl, Or.inr HB1.out, HNM.out, HK1.out, HE1.out, by omega⟩
  case round =>
    obtain ⟨m, pre, hm, rfl, hib, hpre, hkw, hcw, hsw⟩ := hrel
    by_cases hpos : 0 < m
    · obtain ⟨d, rfl⟩ : ∃ d, m = d + 1 := ⟨m - 1, by omega⟩
      have hdl : d % 64 < tail.size := by omega
      have y1 := Lib.hid (ext1 tail (d % 64) hdl)
      have y2 := Lib.hid (ext1_size tail (d % 64) hdl)
      have hsl2 := slice1 tail (d % 64) hdl
      rw [tails_succ] at hpre
      have hpl : pre.length ≤ 39768216 := by
        have h1 := congrArg List.length hpre
        have h2 := HLN.out
        rw [List.length_append] at h1
        omega
      have HP := Lib.hid hpre
      have HI := Lib.hid hib
      have HK := Lib.hid hkw
      clear hpre hib hkw
      have e0 : ((d + 1 : Nat) : Int) - 1 = (d : Int) := by omega
      have e1 : (d : Int) % 64 = ((d % 64 : Nat) : Int) := by omega
      have e2 : (d : Int) / 64 = ((d / 64 : Nat) : Int) := by omega
      have hd64 : d / 64 ≤ 39768215 := by omega
      have hdm : d / 64 < d + 1 := by omega
      have e3 : ((d + 1 : Nat) : Int) = (d : Int) + 1 := by omega
      rw [e3]
      have e4 : (d : Int) + 1 - 1 = (d : Int) := by omega
      clear e0 e3
      generalize tail.data.toList.getD (d % 64) 0 = cd at *
      generalize d % 64 = r at *
      generalize hQ : d / 64 = q at *
      have HQ := Lib.hid hQ
      clear hQ
      go_wp2_with fail
      refine (write (w.heap.size + 1) (w.heap.size + 1) (Lib.byteCells pre) _ wr HI.out (by rw [y2.out, Lib.byteCells_length]; omega) hsw).mono ?_
      rintro e w2 ⟨rfl, hb2, hbel2⟩
      rw [y1.out, ← byteCells_append] at hb2
      have hc2 : w2.cell? ⟨w.heap.size, 1, none⟩ = some (.string tail) := by
        rw [hbel2.cell (p := ⟨w.heap.size, 1, none⟩) (by simp)]
        exact hcw
      have hk2 : Kept w w2 := Below.trans HK.out (Below.mono hbel2 (by omega))
      have hs2 := hbel2.size
      have hR : ∃ (m : Nat) (pre : List UInt8), m ≤ 39768215 ∧ Value.int .i64 (q : Int) = .int .i64 (m : Int) ∧ Lib.IsBuilder 66 5 (w.heap.size + 1) (w.heap.size + 1) (Lib.byteCells pre) w2 ∧ pre ++ tails tail.data.toList m = NM ∧ Kept w w2 ∧ w2.cell? ⟨w.heap.size, 1, none⟩ = some (.string tail) ∧ w.heap.size + 1 ≤ w2.heap.size :=
        ⟨q, pre ++ [cd], hd64, rfl, Or.inr hb2, by rw [List.append_assoc]; exact HP.out, hk2, hc2, by omega⟩
      have HRR := Lib.hid hR
      clear hR hb2 hbel2 hc2 hk2
      go_wp2
      go_roundw
      case rel => first | exact HRR.out | ((repeat apply Exists.intro); exact ⟨HRR.out, rfl⟩)
      case measure => simp [intOf]; omega
    · obtain rfl : m = 0 := by omega
      rw [tails_zero, List.append_nil] at hpre
      have HP := Lib.hid hpre
      have HI := Lib.hid hib
      have HK := Lib.hid hkw
      clear hpre hib hkw
      go_wp2_with fail
      refine (Try.Builder_String_any (w.heap.size + 1) (w.heap.size + 1) pre wr HI.out hsw).mono ?_
      rintro e w2 ⟨rfl, hbel2⟩
      have HB2 := Lib.hid hbel2
      clear hbel2
      rw [HP.out]
      go_wp2
      go_ret
      exact ⟨rfl, Below.trans HK.out (Below.mono HB2.out (by omega))⟩
end Go.Proofs.Ytmpiepanajhfdaa.names
