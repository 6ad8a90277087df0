/-
  The two byte guards over this seat's program.
  Conditions: the files are readable.
-/
import Derived.Test.YtknmcbhcbomjmaaWf
namespace Go.Proofs.Ytknmcbhcbomjmaa.xs
open Go.ChangeShapes Go.WideShapes Go.ChangeAt Go.RowKit
open kit

def Sml (f : EF) : Prop := f.ex.length ≤ 1048576 ∧ f.sr.length ≤ 1048576 ∧ ∀ k, k < f.ex.length → (f.ex.getD k ByteArray.empty).size ≤ 1048576
def BytesBool (w : World) (n : Nat) (fs : List EF) (e : Ending) (w' : World) : Prop :=
  (∃ b, e = .returned (.bool b) ∧ (b = true → n ≤ 1048576 ∧ ∀ i, i < n → Sml (fs.getD i default))) ∧ w = w'
def Y5 (n : Nat) (fs : List EF) (t5 t6 : Value) : Prop := ∃ k x : Nat, k ≤ n ∧ x ≤ 1048576 ∧ t6 = .int .i64 (k : Int) ∧ t5 = .int .i64 (x : Int) ∧ Hid (∀ i, i < k → Sml (fs.getD i default))
def Y7 (xs : List ByteArray) (t5 t7 : Value) : Prop := ∃ k x : Nat, k ≤ xs.length ∧ x ≤ 1048576 ∧ t7 = .int .i64 (k : Int) ∧ t5 = .int .i64 (x : Int) ∧ Hid (∀ j, j < k → (xs.getD j ByteArray.empty).size ≤ 1048576)

set_option maxRecDepth 100000 in
set_option maxHeartbeats 8000000 in
theorem bytes5 (w : World) (a : Option Addr) (n c : Nat) (s : Int) (fs : List EF) (h : Fs w a n fs) (hnc : n ≤ maxLen) :
    Calls Try.prog 5 #[.slice a n c, .int .u32 s] w (BytesBool w n fs) := by
  have HF := Lib.hid h
  clear h
  unfold maxLen at hnc
  by_cases hn : n ≤ 1048576
  · go_enter Try.func5, Try.ntmps5
    go_wp2_with fail
    go_loop [5, 6] (fun t5 t6 => Y5 n fs t5 t6) (fun _ t6 => n - (intOf t6).toNat)
    case atStart => exact ⟨0, n, by omega, by omega, rfl, by first | rfl | go_num, Lib.hid fun i hi => absurd hi (by omega)⟩
    case round =>
      obtain ⟨k, x, hk, hx, rfl, rfl, HS⟩ := hrel
      by_cases hlt : k < n
      · obtain ⟨b, off, rfl, _, _, c1, c2, hr1, hr2⟩ := HF.out.at_ hlt
        have hsz := (HF.out.2.2 _ (HF.out.mem hlt)).2.1
        have HSZ := Lib.hid hsz
        have HR1 := Lib.hid hr1
        have hm1 : (fs.getD k default).ex.length ≤ 9223372036854775807 := by have h1 := hr1.2.1; have h2 := hr1.2.2.1; unfold maxLen at h2; omega
        have hm2 : (fs.getD k default).sr.length ≤ 9223372036854775807 := by have h1 := hr2.2.1; have h2 := hr2.2.2.1; unfold maxLen at h2; omega
        have HL : Hid (Sml (fs.getD k default) → ∀ i, i < k + 1 → Sml (fs.getD i default)) := Lib.hid (fun q i hi => by
          by_cases e : i = k
          · rw [e]; exact q
          · exact HS.out i (by omega))
        clear hr1 hr2 HS hsz
        generalize fs.getD k default = f at *
        obtain ⟨ek, ex, sr, ia, ic, ia2, ic2⟩ := f
        dsimp only at c1 c2 hm1 hm2 HR1 HSZ
        by_cases h1 : ex.length ≤ 1048576
        · by_cases h2 : x + ex.length ≤ 1048576
          · go_wp2_with fail
            go_loop [5, 7] (fun t5 t7 => Y7 ex t5 t7) (fun _ t7 => ex.length - (intOf t7).toNat)
            case atStart => exact ⟨0, x + ex.length, by omega, h2, rfl, by go_num, Lib.hid fun i hi => absurd hi (by omega)⟩
            case round =>
              obtain ⟨j, y, hj, hy, rfl, rfl, HJ⟩ := hrel
              by_cases hlt2 : j < ex.length
              · obtain ⟨b2, off2, rfl, _, x0⟩ := HR1.out.at_ ByteArray.empty hlt2
                have hms : (ex.getD j ByteArray.empty).size ≤ 9223372036854775807 := by
                  have := HSZ.out (ex.getD j ByteArray.empty) (by rw [List.getD_eq_getElem?_getD, List.getElem?_eq_getElem hlt2]; exact List.getElem_mem _)
                  unfold maxLen at this
                  omega
                have HN : Hid ((ex.getD j ByteArray.empty).size ≤ 1048576 → ∀ i, i < j + 1 → (ex.getD i ByteArray.empty).size ≤ 1048576) := Lib.hid (fun q i hi => by
                  by_cases e : i = j
                  · rw [e]; exact q
                  · exact HJ.out i (by omega))
                clear HJ
                generalize ex.getD j ByteArray.empty = z at *
                by_cases h3 : z.size ≤ 1048576
                · have HN2 := Lib.hid (HN.out h3)
                  clear HN
                  by_cases h4 : y + z.size ≤ 1048576
                  · go_wp2_with fail
                    go_round
                    case rel => exact ⟨j + 1, y + z.size, by omega, h4, by go_num, by go_num, HN2⟩
                    case measure => simp [intOf]; omega
                  · go_wp2_with fail
                    go_ret
                    exact ⟨⟨false, rfl, fun h => by cases h⟩, rfl⟩
                · go_wp2_with fail
                  go_ret
                  exact ⟨⟨false, rfl, fun h => by cases h⟩, rfl⟩
              · obtain rfl : j = ex.length := by omega
                by_cases h5 : sr.length ≤ 1048576
                · have HL2 := Lib.hid (HL.out ⟨h1, h5, HJ.out⟩)
                  clear HL HJ
                  by_cases h6 : y + sr.length ≤ 1048576
                  · go_wp2_with fail
                    go_round
                    case rel => exact ⟨k + 1, y + sr.length, by omega, h6, by go_num, by go_num, HL2⟩
                    case measure => simp [intOf]; omega
                  · go_wp2_with fail
                    go_ret
                    exact ⟨⟨false, rfl, fun h => by cases h⟩, rfl⟩
                · clear HL
                  go_wp2_with fail
                  go_ret
                  exact ⟨⟨false, rfl, fun h => by cases h⟩, rfl⟩
          · go_wp2_with fail
            go_ret
            exact ⟨⟨false, rfl, fun h => by cases h⟩, rfl⟩
        · go_wp2_with fail
          go_ret
          exact ⟨⟨false, rfl, fun h => by cases h⟩, rfl⟩
      · obtain rfl : n = k := by omega
        go_wp2_with fail
        go_ret
        exact ⟨⟨true, rfl, fun _ => ⟨hn, HS.out⟩⟩, rfl⟩
  · go_enter Try.func5, Try.ntmps5
    go_wp2_with fail
    go_ret
    exact ⟨⟨false, rfl, fun h => by cases h⟩, rfl⟩

set_option maxRecDepth 100000 in
set_option maxHeartbeats 8000000 in
theorem bytes11 (w : World) (a : Option Addr) (n c : Nat) (s : Int) (fs : List EF) (h : Fs w a n fs) (hnc : n ≤ maxLen) :
    Calls Try.prog 11 #[.slice a n c, .int .u32 s] w (BytesBool w n fs) := by
  have HF := Lib.hid h
  clear h
  unfold maxLen at hnc
  by_cases hn : n ≤ 1048576
  · go_enter Try.func11, Try.ntmps11
    go_wp2_with fail
    go_loop [5, 6] (fun t5 t6 => Y5 n fs t5 t6) (fun _ t6 => n - (intOf t6).toNat)
    case atStart => exact ⟨0, n, by omega, by omega, rfl, by first | rfl | go_num, Lib.hid fun i hi => absurd hi (by omega)⟩
    case round =>
      obtain ⟨k, x, hk, hx, rfl, rfl, HS⟩ := hrel
      by_cases hlt : k < n
      · obtain ⟨b, off, rfl, _, _, c1, c2, hr1, hr2⟩ := HF.out.at_ hlt
        have hsz := (HF.out.2.2 _ (HF.out.mem hlt)).2.1
        have HSZ := Lib.hid hsz
        have HR1 := Lib.hid hr1
        have hm1 : (fs.getD k default).ex.length ≤ 9223372036854775807 := by have h1 := hr1.2.1; have h2 := hr1.2.2.1; unfold maxLen at h2; omega
        have hm2 : (fs.getD k default).sr.length ≤ 9223372036854775807 := by have h1 := hr2.2.1; have h2 := hr2.2.2.1; unfold maxLen at h2; omega
        have HL : Hid (Sml (fs.getD k default) → ∀ i, i < k + 1 → Sml (fs.getD i default)) := Lib.hid (fun q i hi => by
          by_cases e : i = k
          · rw [e]; exact q
          · exact HS.out i (by omega))
        clear hr1 hr2 HS hsz
        generalize fs.getD k default = f at *
        obtain ⟨ek, ex, sr, ia, ic, ia2, ic2⟩ := f
        dsimp only at c1 c2 hm1 hm2 HR1 HSZ
        by_cases h1 : ex.length ≤ 1048576
        · by_cases h2 : x + ex.length ≤ 1048576
          · go_wp2_with fail
            go_loop [5, 7] (fun t5 t7 => Y7 ex t5 t7) (fun _ t7 => ex.length - (intOf t7).toNat)
            case atStart => exact ⟨0, x + ex.length, by omega, h2, rfl, by go_num, Lib.hid fun i hi => absurd hi (by omega)⟩
            case round =>
              obtain ⟨j, y, hj, hy, rfl, rfl, HJ⟩ := hrel
              by_cases hlt2 : j < ex.length
              · obtain ⟨b2, off2, rfl, _, x0⟩ := HR1.out.at_ ByteArray.empty hlt2
                have hms : (ex.getD j ByteArray.empty).size ≤ 9223372036854775807 := by
                  have := HSZ.out (ex.getD j ByteArray.empty) (by rw [List.getD_eq_getElem?_getD, List.getElem?_eq_getElem hlt2]; exact List.getElem_mem _)
                  unfold maxLen at this
                  omega
                have HN : Hid ((ex.getD j ByteArray.empty).size ≤ 1048576 → ∀ i, i < j + 1 → (ex.getD i ByteArray.empty).size ≤ 1048576) := Lib.hid (fun q i hi => by
                  by_cases e : i = j
                  · rw [e]; exact q
                  · exact HJ.out i (by omega))
                clear HJ
                generalize ex.getD j ByteArray.empty = z at *
                by_cases h3 : z.size ≤ 1048576
                · have HN2 := Lib.hid (HN.out h3)
                  clear HN
                  by_cases h4 : y + z.size ≤ 1048576
                  · go_wp2_with fail
                    go_round
                    case rel => exact ⟨j + 1, y + z.size, by omega, h4, by go_num, by go_num, HN2⟩
                    case measure => simp [intOf]; omega
                  · go_wp2_with fail
                    go_ret
                    exact ⟨⟨false, rfl, fun h => by cases h⟩, rfl⟩
                · go_wp2_with fail
                  go_ret
                  exact ⟨⟨false, rfl, fun h => by cases h⟩, rfl⟩
              · obtain rfl : j = ex.length := by omega
                by_cases h5 : sr.length ≤ 1048576
                · have HL2 := Lib.hid (HL.out ⟨h1, h5, HJ.out⟩)
                  clear HL HJ
                  by_cases h6 : y + sr.length ≤ 1048576
                  · go_wp2_with fail
                    go_round
                    case rel => exact ⟨k + 1, y + sr.length, by omega, h6, by go_num, by go_num, HL2⟩
                    case measure => simp [intOf]; omega
                  · go_wp2_with fail
                    go_ret
                    exact ⟨⟨false, rfl, fun h => by cases h⟩, rfl⟩
                · clear HL
                  go_wp2_with fail
                  go_ret
                  exact ⟨⟨false, rfl, fun h => by cases h⟩, rfl⟩
          · go_wp2_with fail
            go_ret
            exact ⟨⟨false, rfl, fun h => by cases h⟩, rfl⟩
        · go_wp2_with fail
          go_ret
          exact ⟨⟨false, rfl, fun h => by cases h⟩, rfl⟩
      · obtain rfl : n = k := by omega
        go_wp2_with fail
        go_ret
        exact ⟨⟨true, rfl, fun _ => ⟨hn, HS.out⟩⟩, rfl⟩
  · go_enter Try.func11, Try.ntmps11
    go_wp2_with fail
    go_ret
    exact ⟨⟨false, rfl, fun h => by cases h⟩, rfl⟩
end Go.Proofs.Ytknmcbhcbomjmaa.xs
