/-
  More contracts for the round trip of smallIntToBytes: the wrappers, the printer's maker, parseSmallInt for every size of number.
  Conditions: the number's size is at most 2^63 - 1.
-/
import Derived.Test.YtgoffcpchgepeaaSmall
import Derived.Laws.Tables
namespace Go.Proofs.Ytgoffcpchgepeaa.small
open Go.ChangeShapes Go.WideShapes Go.ChangeAt Go.RowKit
open kit pr plain

theorem buf_new (w : World) (CS : Array Value) (h : 136 ≤ CS.size) : Buf (w.alloc (.cells CS 111)) w.heap.size 64 [] := by
  have hb : Blk (w.alloc (.cells CS 111)) w.heap.size 111 CS.toList := by
    have := heap_alloc_new w (.cells CS 111)
    simpa [Blk] using this
  exact Buf.nil hb (by simpa using h)
set_option maxRecDepth 100000 in
set_option maxHeartbeats 2000000 in
theorem new48 (w : World) (x y : Int) (b1 b2 : Bool) : Calls Try.prog 48 #[.slice none 0 0, .int .i64 x, .int .i64 y, .bool b1, .bool b2] w fun e w2 => e = .returned (.pointer (some ⟨w.heap.size, 0, none⟩)) ∧ Buf w2 w.heap.size 64 [] ∧ Kept w w2 := by
  go_enter Try.func48, Try.ntmps48
  go_wp2
  go_ret
  refine ⟨rfl, buf_new w _ ?_, (Kept.refl _).alloc _⟩
  simp only [Array.size_setIfInBounds]
  exact of_decide_eq_true (by kernel_rfl)

theorem small49 (w : World) (g : Nat) (x : Int) (txt : List Int) (hc : Calls Try.prog 76 #[.pointer (some ⟨g, 0, none⟩), .int .i64 x] w (Wrote w g txt)) :
    Calls Try.prog 49 #[.pointer (some ⟨g, 0, none⟩), .int .i64 x] w (Wrote w g txt) := by
  have HC := Lib.hid hc
  clear hc
  go_enter Try.func49, Try.ntmps49
  go_wp2_with fail
  refine HC.out.mono ?_
  rintro e w2 ⟨st, rfl, hl, hb, hs⟩
  have HL := Lib.hid hl
  have HB := Lib.hid hb
  have HS := Lib.hid hs
  clear hl hb hs
  go_wp2
  go_ret
  exact ⟨st, rfl, HL.out, HB.out, HS.out⟩

theorem parse50 (v : Value) (x : Int) (w : World) (hc : Calls Try.prog 77 #[v] w fun e w' => e = .returned (.int .i64 x) ∧ w = w') :
    Calls Try.prog 50 #[v] w fun e w' => e = .returned (.int .i64 x) ∧ w = w' := by
  have HC := Lib.hid hc
  clear hc
  go_enter Try.func50, Try.ntmps50
  go_wp2_with fail
  refine HC.out.mono ?_
  rintro e w2 ⟨rfl, rfl⟩
  go_wp2
  go_ret
  exact ⟨rfl, rfl⟩

theorem intok (x : Int) (w : World) (h1 : -9223372036854775807 ≤ x) (h2 : x ≤ 9223372036854775807) : Calls Try.prog 47 #[.int .i64 x] w fun e w' => e = .returned (.bool true) ∧ w = w' := by
  have hne : (x != x) = false := by simp
  by_cases h : x < 0
  · go_enter Try.func47, Try.ntmps47
    go_wp2
    go_ret
    exact ⟨rfl, rfl⟩
  · go_enter Try.func47, Try.ntmps47
    go_wp2
    go_ret
    exact ⟨rfl, rfl⟩
theorem intno (w : World) : Calls Try.prog 47 #[.int .i64 (-9223372036854775808)] w fun e w' => e = .returned (.bool false) ∧ w = w' := by
  have hd : wrap64 9223372036854775808 < 0 := by unfold wrap64; omega
  go_enter Try.func47, Try.ntmps47
  go_wp2
  go_ret
  exact ⟨rfl, rfl⟩

set_option maxHeartbeats 1000000 in
theorem ppos (b off len cap : Nat) (xs : List Int) (w : World) (hn : xs.length = len) (h0 : 0 < len) (hm : len ≤ 4611686018427387904) (hd : Digits xs) (hv : dec xs ≤ 9223372036854775807)
    (hc : ∀ k, k < len → w.cell? ⟨b, off + k, none⟩ = some (.int .u8 (xs.getD k 0))) :
    Calls Try.prog 77 #[.slice (some ⟨b, off, none⟩) len cap] w fun e w' => e = .returned (.int .i64 (dec xs)) ∧ w = w' := by
  have c0 : w.cell? ⟨b, off, none⟩ = some (.int .u8 (xs.getD 0 0)) := by simpa using hc 0 h0
  have hdig : ∀ k, k < len → 48 ≤ xs.getD k 0 ∧ xs.getD k 0 ≤ 57 := fun k hk => by
    have : xs.getD k 0 ∈ xs := by
      rw [List.getD_eq_getElem?_getD, List.getElem?_eq_getElem (by omega)]; simp
    exact hd _ this
  have d0 := hdig 0 h0
  have e0 : (xs.getD 0 0 == 45) = false := beq_eq_false_iff_ne.2 (by omega)
  have hp : (0 : Int) < (len : Int) := by omega
  have HN := Lib.hid hn
  have HC := Lib.hid hc
  have HG := Lib.hid hdig
  clear hn hc hdig
  generalize xs.getD 0 0 = x0 at *
  go_enter Try.func77, Try.ntmps77
  go_wp2
  go_loop [4, 16] (fun t i => ∃ k : Nat, k ≤ len ∧ i = .int .i64 k ∧ t = .int .i64 (dec (xs.take k))) (fun _ i => len - (intOf i).toNat)
  case atStart => exact ⟨0, by omega, rfl, rfl⟩
  case round =>
    obtain ⟨k, hk, rfl, rfl⟩ := hrel
    have l1 : 0 ≤ dec (xs.take k) := dec_nonneg _ (fun x hx => hd x (List.mem_of_mem_take hx))
    have l2 : dec (xs.take k) ≤ 9223372036854775807 := Int.le_trans (dec_take_le xs k hd) hv
    by_cases hlt : k < len
    · have ck := HC.out k hlt
      have dk := HG.out k hlt
      have hs : dec (xs.take (k + 1)) = dec (xs.take k) * 10 + (xs.getD k 0 - 48) := by rw [take_snoc xs k (by rw [HN.out]; omega), dec_snoc]
      have l3 : dec (xs.take k) * 10 + (xs.getD k 0 - 48) ≤ 9223372036854775807 := by rw [← hs]; exact Int.le_trans (dec_take_le xs (k + 1) hd) hv
      have HS := Lib.hid hs
      clear hs
      generalize xs.getD k 0 = xk at *
      generalize dec (xs.take k) = dk at *
      go_wp2
      go_round
      case rel => exact ⟨k + 1, by omega, by go_num, by rw [HS.out]⟩
      case measure => simp [intOf]; omega
    · obtain rfl : k = len := by omega
      have he := Lib.hid (show dec (xs.take k) = dec xs by rw [List.take_of_length_le (by rw [HN.out]; omega)])
      go_wp2
      go_ret
      exact ⟨by rw [← he.out]; rfl, rfl⟩

set_option maxHeartbeats 1000000 in
theorem pneg (b off len cap : Nat) (xs : List Int) (w : World) (hn : xs.length = len) (h0 : 0 < len) (hcap : len + 1 ≤ cap) (hm : len ≤ 4611686018427387904) (hd : Digits xs) (hv : dec xs ≤ 9223372036854775807)
    (c0 : w.cell? ⟨b, off, none⟩ = some (.int .u8 45))
    (hc : ∀ k, k < len → w.cell? ⟨b, off + 1 + k, none⟩ = some (.int .u8 (xs.getD k 0))) :
    Calls Try.prog 77 #[.slice (some ⟨b, off, none⟩) (len + 1) cap] w fun e w' => e = .returned (.int .i64 (-(dec xs))) ∧ w = w' := by
  have hdig : ∀ k, k < len → 48 ≤ xs.getD k 0 ∧ xs.getD k 0 ≤ 57 := fun k hk => by
    have : xs.getD k 0 ∈ xs := by
      rw [List.getD_eq_getElem?_getD, List.getElem?_eq_getElem (by omega)]; simp
    exact hd _ this
  have hp : (0 : Int) < (len : Int) + 1 := by omega
  have hne : ¬ cap = 1 := by omega
  have HN := Lib.hid hn
  have HC := Lib.hid hc
  have HG := Lib.hid hdig
  clear hn hc hdig
  go_enter Try.func77, Try.ntmps77
  go_wp2
  go_loop [4, 16] (fun t i => ∃ k : Nat, k ≤ len ∧ i = .int .i64 k ∧ t = .int .i64 (dec (xs.take k))) (fun _ i => len - (intOf i).toNat)
  case atStart => exact ⟨0, by omega, rfl, rfl⟩
  case round =>
    obtain ⟨k, hk, rfl, rfl⟩ := hrel
    have l1 : 0 ≤ dec (xs.take k) := dec_nonneg _ (fun x hx => hd x (List.mem_of_mem_take hx))
    have l2 : dec (xs.take k) ≤ 9223372036854775807 := Int.le_trans (dec_take_le xs k hd) hv
    by_cases hlt : k < len
    · have ck := HC.out k hlt
      have dk := HG.out k hlt
      have hs : dec (xs.take (k + 1)) = dec (xs.take k) * 10 + (xs.getD k 0 - 48) := by rw [take_snoc xs k (by rw [HN.out]; omega), dec_snoc]
      have l3 : dec (xs.take k) * 10 + (xs.getD k 0 - 48) ≤ 9223372036854775807 := by rw [← hs]; exact Int.le_trans (dec_take_le xs (k + 1) hd) hv
      have HS := Lib.hid hs
      clear hs
      generalize xs.getD k 0 = xk at *
      generalize dec (xs.take k) = dk at *
      go_wp2
      go_round
      case rel => exact ⟨k + 1, by omega, by go_num, by rw [HS.out]⟩
      case measure => simp [intOf]; omega
    · obtain rfl : k = len := by omega
      have he := Lib.hid (show dec (xs.take k) = dec xs by rw [List.take_of_length_le (by rw [HN.out]; omega)])
      go_wp2
      go_ret
      exact ⟨by rw [← he.out]; rfl, rfl⟩
end Go.Proofs.Ytgoffcpchgepeaa.small
