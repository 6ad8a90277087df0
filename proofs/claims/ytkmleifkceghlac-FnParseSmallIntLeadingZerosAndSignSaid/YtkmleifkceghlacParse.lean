/-
  Contracts of parseSmallInt over this seat's program: on a nonempty row of digits it answers their value, on '-' and digits the negated value; it writes nothing.
  Conditions: the value is at most 999999999.
-/
import Derived.Test.YtkmleifkceghlacPlain
import Derived.LoopTactic
namespace Go.Proofs.Ytkmleifkceghlac.parse
open Go.ChangeShapes Go.WideShapes Go.ChangeAt Go.RowKit
open kit plain

theorem pos (b off len cap : Nat) (xs : List Int) (w : World) (hn : xs.length = len) (h0 : 0 < len) (hm : len ≤ 4611686018427387904) (hd : Digits xs) (hv : dec xs ≤ 999999999)
    (hc : ∀ k, k < len → w.cell? ⟨b, off + k, none⟩ = some (.int .u8 (xs.getD k 0))) :
    Calls Try.prog 12 #[.slice (some ⟨b, off, none⟩) len cap] w fun e w' => e = .returned (.int .i64 (dec xs)) ∧ w = w' := by
  have c0 : w.cell? ⟨b, off, none⟩ = some (.int .u8 (xs.getD 0 0)) := by simpa using hc 0 h0
  have hdig : ∀ k, k < len → 48 ≤ xs.getD k 0 ∧ xs.getD k 0 ≤ 57 := fun k hk => by
    have : xs.getD k 0 ∈ xs := by
      rw [List.getD_eq_getElem?_getD, List.getElem?_eq_getElem (by omega)]; simp
    exact hd _ this
  have d0 := hdig 0 h0
  have e0 : (xs.getD 0 0 == 45) = false := beq_eq_false_iff_ne.2 (by omega)
  have hp : (0 : Int) < (len : Int) := by omega
  have HN := Lib.hid hn
  have HC := Lib.hid hc
  have HG := Lib.hid hdig
  clear hn hc hdig
  generalize xs.getD 0 0 = x0 at *
  go_enter Try.func12, Try.ntmps12
  go_wp2
  go_loop [4, 16] (fun t i => ∃ k : Nat, k ≤ len ∧ i = .int .i64 k ∧ t = .int .i64 (dec (xs.take k))) (fun _ i => len - (intOf i).toNat)
  case atStart => exact ⟨0, by omega, rfl, rfl⟩
  case round =>
    obtain ⟨k, hk, rfl, rfl⟩ := hrel
    have l1 : 0 ≤ dec (xs.take k) := dec_nonneg _ (fun x hx => hd x (List.mem_of_mem_take hx))
    have l2 : dec (xs.take k) ≤ 999999999 := Int.le_trans (dec_take_le xs k hd) hv
    by_cases hlt : k < len
    · have ck := HC.out k hlt
      have dk := HG.out k hlt
      have hs : dec (xs.take (k + 1)) = dec (xs.take k) * 10 + (xs.getD k 0 - 48) := by rw [take_snoc xs k (by rw [HN.out]; omega), dec_snoc]
      have HS := Lib.hid hs
      clear hs
      generalize xs.getD k 0 = xk at *
      generalize dec (xs.take k) = dk at *
      go_wp2
      go_round
      case rel => exact ⟨k + 1, by omega, by go_num, by rw [HS.out]⟩
      case measure => simp [intOf]; omega
    · obtain rfl : k = len := by omega
      have he := Lib.hid (show dec (xs.take k) = dec xs by rw [List.take_of_length_le (by rw [HN.out]; omega)])
      go_wp2
      go_ret
      exact ⟨by rw [← he.out]; rfl, rfl⟩

theorem neg (b off len cap : Nat) (xs : List Int) (w : World) (hn : xs.length = len) (h0 : 0 < len) (hcap : len + 1 ≤ cap) (hm : len ≤ 4611686018427387904) (hd : Digits xs) (hv : dec xs ≤ 999999999)
    (c0 : w.cell? ⟨b, off, none⟩ = some (.int .u8 45))
    (hc : ∀ k, k < len → w.cell? ⟨b, off + 1 + k, none⟩ = some (.int .u8 (xs.getD k 0))) :
    Calls Try.prog 12 #[.slice (some ⟨b, off, none⟩) (len + 1) cap] w fun e w' => e = .returned (.int .i64 (-(dec xs))) ∧ w = w' := by
  have hdig : ∀ k, k < len → 48 ≤ xs.getD k 0 ∧ xs.getD k 0 ≤ 57 := fun k hk => by
    have : xs.getD k 0 ∈ xs := by
      rw [List.getD_eq_getElem?_getD, List.getElem?_eq_getElem (by omega)]; simp
    exact hd _ this
  have hp : (0 : Int) < (len : Int) + 1 := by omega
  have hne : ¬ cap = 1 := by omega
  have HN := Lib.hid hn
  have HC := Lib.hid hc
  have HG := Lib.hid hdig
  clear hn hc hdig
  go_enter Try.func12, Try.ntmps12
  go_wp2
  go_loop [4, 16] (fun t i => ∃ k : Nat, k ≤ len ∧ i = .int .i64 k ∧ t = .int .i64 (dec (xs.take k))) (fun _ i => len - (intOf i).toNat)
  case atStart => exact ⟨0, by omega, rfl, rfl⟩
  case round =>
    obtain ⟨k, hk, rfl, rfl⟩ := hrel
    have l1 : 0 ≤ dec (xs.take k) := dec_nonneg _ (fun x hx => hd x (List.mem_of_mem_take hx))
    have l2 : dec (xs.take k) ≤ 999999999 := Int.le_trans (dec_take_le xs k hd) hv
    by_cases hlt : k < len
    · have ck := HC.out k hlt
      have dk := HG.out k hlt
      have hs : dec (xs.take (k + 1)) = dec (xs.take k) * 10 + (xs.getD k 0 - 48) := by rw [take_snoc xs k (by rw [HN.out]; omega), dec_snoc]
      have HS := Lib.hid hs
      clear hs
      generalize xs.getD k 0 = xk at *
      generalize dec (xs.take k) = dk at *
      go_wp2
      go_round
      case rel => exact ⟨k + 1, by omega, by go_num, by rw [HS.out]⟩
      case measure => simp [intOf]; omega
    · obtain rfl : k = len := by omega
      have he := Lib.hid (show dec (xs.take k) = dec xs by rw [List.take_of_length_le (by rw [HN.out]; omega)])
      go_wp2
      go_ret
      exact ⟨by rw [← he.out]; rfl, rfl⟩
end Go.Proofs.Ytkmleifkceghlac.parse
