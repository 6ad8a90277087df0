/-
  jsValid over this seat's program: where it says yes the files fit.
  Conditions: the files are readable and small.
-/
import Derived.Test.YtkogmgonceneeaaCf2
namespace Go.Proofs.Ytkogmgonceneeaa.css
open Go.ChangeShapes Go.WideShapes Go.ChangeAt Go.RowKit
open kit dfs

/-- file f is sound -/
def Ok1 (n : Nat) (F : Ct) (f : Nat) : Prop := (hasC F f = true → cssOf F f ≠ 4294967295) ∧ ∀ p, p < np F f → ∀ x ∈ imps F f p, x.1 = true → x.2 < n
def OkV (w : World) (n e : Nat) (F : Ct) (r : Ending) (w' : World) : Prop := (∃ b, r = .returned (.bool b) ∧ (b = true → e < n ∧ ∀ f, f < n → Ok1 n F f)) ∧ w = w'
def A6 (n : Nat) (F : Ct) (t5 : Value) : Prop := ∃ k : Nat, k ≤ n ∧ t5 = .int .i64 (k : Int) ∧ Hid (∀ f, f < k → Ok1 n F f)
def B6 (n : Nat) (F : Ct) (k : Nat) (t6 : Value) : Prop := ∃ j : Nat, j ≤ np F k ∧ t6 = .int .i64 (j : Int) ∧ Hid (∀ p, p < j → ∀ x ∈ imps F k p, x.1 = true → x.2 < n)
def C6 (n : Nat) (D : List Imp) (t8 : Value) : Prop := ∃ i : Nat, i ≤ D.length ∧ t8 = .int .i64 (i : Int) ∧ Hid (∀ q (h : q < D.length), q < i → D[q].1 = true → D[q].2 < n)
theorem ok_css {c : Nat} {b : Bool} (h : ¬ (b = true ∧ (c : Int) = 4294967295)) : b = true → c ≠ 4294967295 := fun hb e => h ⟨hb, by omega⟩

set_option maxRecDepth 100000 in
set_option maxHeartbeats 8000000 in
theorem valid6 (w : World) (a : Option Addr) (n c e : Nat) (F : Ct) (h : FilesC w a n F) (hn : n ≤ 131072) (hl : Lens F 131072 n) (he : e ≤ 4294967295) :
    Calls Try.prog 6 #[.slice a n c, .int .u32 (e : Int)] w (OkV w n e F) := by
  have HF := Lib.hid h
  have HL := Lib.hid hl
  clear h hl
  have W1 : IntKind.u64.wrap (e : Int) = (e : Int) := by rw [IntKind.wrap_u64]; omega
  have W3 : IntKind.u64.wrap (n : Int) = (n : Int) := by rw [IntKind.wrap_u64]; omega
  by_cases hen : e < n
  · have he2 : (e : Int) < (n : Int) := by omega
    go_enter Try.func6, Try.ntmps6
    go_wp2_with fail
    go_loop [5] (fun t5 => A6 n F t5) (fun t5 => n - (intOf t5).toNat)
    case atStart => exact ⟨0, by omega, rfl, Lib.hid (fun f hf => absurd hf (by omega))⟩
    case round =>
      obtain ⟨k, hk, rfl, HO⟩ := hrel
      by_cases hlt : k < n
      · obtain ⟨b, off, pa, pc, rfl, hb, c0, c1, c2, hc32, hpc, hpm, _, hP⟩ := HF.out.at_ hlt
        have HP := Lib.hid hP
        have k0 : (k : Int) < (n : Int) := by omega
        have hnp : np F k ≤ 131072 := (HL.out k hlt).1
        have HLk := Lib.hid (HL.out k hlt).2
        have HO2 : Hid ((hasC F k = true → cssOf F k ≠ 4294967295) → (∀ p, p < np F k → ∀ x ∈ imps F k p, x.1 = true → x.2 < n) → ∀ f, f < k + 1 → Ok1 n F f) := Lib.hid (fun h1 h2 f hf => by
          by_cases e : f = k
          · rw [e]; exact ⟨h1, h2⟩
          · exact HO.out f (by omega))
        clear hP HO
        generalize hmk : np F k = m at *
        have HMK := Lib.hid hmk
        clear hmk
        generalize cssOf F k = cs at *
        generalize hasC F k = hc at *
        by_cases hbad : hc = true ∧ cs = 4294967295
        · obtain ⟨rfl, rfl⟩ := hbad
          clear HO2
          go_wp2_with fail
          go_ret
          exact ⟨⟨false, rfl, fun h => by cases h⟩, rfl⟩
        · have HO3 := Lib.hid (fun h2 => HO2.out (fun h1 h3 => hbad ⟨h1, h3⟩) h2)
          clear HO2
          have hne : hc = true → ((cs : Int) == 4294967295) = false := fun h1 => by
            have : cs ≠ 4294967295 := fun h2 => hbad ⟨h1, h2⟩
            simp
            omega
          clear hbad
          cases hc
          · clear hne
            go_wp2_with fail
            go_loop [6] (fun t6 => B6 n F k t6) (fun t6 => m - (intOf t6).toNat)
            case atStart => exact ⟨0, Nat.zero_le _, rfl, Lib.hid (fun p hp => absurd hp (by omega))⟩
            case round =>
              obtain ⟨j, hj, rfl, HJ⟩ := hrel
              rw [HMK.out] at hj
              by_cases hlt2 : j < m
              · obtain ⟨b2, off2, da, dc, rfl, _, d1, hd1, hd2, _, hD, h32⟩ := part_at HP.out (p := j) (by rw [HMK.out]; exact hlt2)
                have HD := Lib.hid hD
                have H32 := Lib.hid h32
                have j0 : (j : Int) < (m : Int) := by omega
                have hd3 : (imps F k j).length ≤ 131072 := HLk.out j hlt2
                have HJ2 : Hid ((∀ x ∈ imps F k j, x.1 = true → x.2 < n) → ∀ p, p < j + 1 → ∀ x ∈ imps F k p, x.1 = true → x.2 < n) := Lib.hid (fun h p hp => by
                  by_cases e : p = j
                  · rw [e]; exact h
                  · exact HJ.out p (by omega))
                clear HJ hD h32
                generalize imps F k j = D at *
                go_wp2_with fail
                go_loop [8] (fun t8 => C6 n D t8) (fun t8 => D.length - (intOf t8).toNat)
                case atStart => exact ⟨0, Nat.zero_le _, rfl, Lib.hid (fun i _ hi => absurd hi (by omega))⟩
                case round =>
                  obtain ⟨i, hi, rfl, HI⟩ := hrel
                  by_cases hlt3 : i < D.length
                  · obtain ⟨b3, off3, rfl, _, hc3⟩ := HD.out (by omega)
                    obtain ⟨z1, z2⟩ := hc3 i hlt3
                    have i0 : (i : Int) < (D.length : Int) := by omega
                    have HI2 : Hid ((D[i].1 = true → D[i].2 < n) → ∀ q (h : q < D.length), q < i + 1 → D[q].1 = true → D[q].2 < n) := Lib.hid (fun h q hq hqi => by
                      by_cases e : q = i
                      · subst e; exact h
                      · exact HI.out q hq (by omega))
                    have hb32 := H32.out _ (List.getElem_mem hlt3)
                    clear hc3 HI
                    generalize D[i] = x at *
                    obtain ⟨x1, x2⟩ := x
                    simp only at z1 z2 hb32
                    have HI2 : Hid ((x1 = true → x2 < n) → ∀ q (h : q < D.length), q < i + 1 → D[q].1 = true → D[q].2 < n) := HI2
                    have W4 : IntKind.u64.wrap (x2 : Int) = (x2 : Int) := by rw [IntKind.wrap_u64]; omega
                    cases x1
                    · have HI3 := Lib.hid (HI2.out (fun h => by cases h))
                      clear HI2
                      go_wp2_with fail
                      go_round
                      case rel => exact ⟨i + 1, by omega, by go_num, HI3⟩
                      case measure => simp [intOf]; omega
                    · by_cases hx : x2 < n
                      · have HI3 := Lib.hid (HI2.out (fun _ => hx))
                        have hx2 : (x2 : Int) < (n : Int) := by omega
                        clear HI2
                        go_wp2_with fail
                        go_round
                        case rel => exact ⟨i + 1, by omega, by go_num, HI3⟩
                        case measure => simp [intOf]; omega
                      · have hx2 : ¬ (x2 : Int) < (n : Int) := by omega
                        have hx3 : (n : Int) ≤ (x2 : Int) := by omega
                        clear HI2
                        go_wp2_with fail
                        go_ret
                        exact ⟨⟨false, rfl, fun h => by cases h⟩, rfl⟩
                  · obtain rfl : i = D.length := by omega
                    have HJ3 := Lib.hid (HJ2.out (fun x hx => by
                      obtain ⟨q, hq, rfl⟩ := List.getElem_of_mem hx
                      exact HI.out q hq hq))
                    clear HI HJ2
                    go_wp2_with fail
                    go_round
                    case rel => exact ⟨j + 1, by rw [HMK.out]; omega, by go_num, HJ3⟩
                    case measure => simp [intOf]; omega
              · obtain rfl : j = m := by omega
                have HO4 := Lib.hid (HO3.out HJ.out)
                clear HJ HO3
                go_wp2_with fail
                go_round
                case rel => exact ⟨k + 1, by omega, by go_num, HO4⟩
                case measure => simp [intOf]; omega
          · have hne := hne rfl
            go_wp2_with fail
            go_loop [6] (fun t6 => B6 n F k t6) (fun t6 => m - (intOf t6).toNat)
            case atStart => exact ⟨0, Nat.zero_le _, rfl, Lib.hid (fun p hp => absurd hp (by omega))⟩
            case round =>
              obtain ⟨j, hj, rfl, HJ⟩ := hrel
              rw [HMK.out] at hj
              by_cases hlt2 : j < m
              · obtain ⟨b2, off2, da, dc, rfl, _, d1, hd1, hd2, _, hD, h32⟩ := part_at HP.out (p := j) (by rw [HMK.out]; exact hlt2)
                have HD := Lib.hid hD
                have H32 := Lib.hid h32
                have j0 : (j : Int) < (m : Int) := by omega
                have hd3 : (imps F k j).length ≤ 131072 := HLk.out j hlt2
                have HJ2 : Hid ((∀ x ∈ imps F k j, x.1 = true → x.2 < n) → ∀ p, p < j + 1 → ∀ x ∈ imps F k p, x.1 = true → x.2 < n) := Lib.hid (fun h p hp => by
                  by_cases e : p = j
                  · rw [e]; exact h
                  · exact HJ.out p (by omega))
                clear HJ hD h32
                generalize imps F k j = D at *
                go_wp2_with fail
                go_loop [8] (fun t8 => C6 n D t8) (fun t8 => D.length - (intOf t8).toNat)
                case atStart => exact ⟨0, Nat.zero_le _, rfl, Lib.hid (fun i _ hi => absurd hi (by omega))⟩
                case round =>
                  obtain ⟨i, hi, rfl, HI⟩ := hrel
                  by_cases hlt3 : i < D.length
                  · obtain ⟨b3, off3, rfl, _, hc3⟩ := HD.out (by omega)
                    obtain ⟨z1, z2⟩ := hc3 i hlt3
                    have i0 : (i : Int) < (D.length : Int) := by omega
                    have HI2 : Hid ((D[i].1 = true → D[i].2 < n) → ∀ q (h : q < D.length), q < i + 1 → D[q].1 = true → D[q].2 < n) := Lib.hid (fun h q hq hqi => by
                      by_cases e : q = i
                      · subst e; exact h
                      · exact HI.out q hq (by omega))
                    have hb32 := H32.out _ (List.getElem_mem hlt3)
                    clear hc3 HI
                    generalize D[i] = x at *
                    obtain ⟨x1, x2⟩ := x
                    simp only at z1 z2 hb32
                    have HI2 : Hid ((x1 = true → x2 < n) → ∀ q (h : q < D.length), q < i + 1 → D[q].1 = true → D[q].2 < n) := HI2
                    have W4 : IntKind.u64.wrap (x2 : Int) = (x2 : Int) := by rw [IntKind.wrap_u64]; omega
                    cases x1
                    · have HI3 := Lib.hid (HI2.out (fun h => by cases h))
                      clear HI2
                      go_wp2_with fail
                      go_round
                      case rel => exact ⟨i + 1, by omega, by go_num, HI3⟩
                      case measure => simp [intOf]; omega
                    · by_cases hx : x2 < n
                      · have HI3 := Lib.hid (HI2.out (fun _ => hx))
                        have hx2 : (x2 : Int) < (n : Int) := by omega
                        clear HI2
                        go_wp2_with fail
                        go_round
                        case rel => exact ⟨i + 1, by omega, by go_num, HI3⟩
                        case measure => simp [intOf]; omega
                      · have hx2 : ¬ (x2 : Int) < (n : Int) := by omega
                        have hx3 : (n : Int) ≤ (x2 : Int) := by omega
                        clear HI2
                        go_wp2_with fail
                        go_ret
                        exact ⟨⟨false, rfl, fun h => by cases h⟩, rfl⟩
                  · obtain rfl : i = D.length := by omega
                    have HJ3 := Lib.hid (HJ2.out (fun x hx => by
                      obtain ⟨q, hq, rfl⟩ := List.getElem_of_mem hx
                      exact HI.out q hq hq))
                    clear HI HJ2
                    go_wp2_with fail
                    go_round
                    case rel => exact ⟨j + 1, by rw [HMK.out]; omega, by go_num, HJ3⟩
                    case measure => simp [intOf]; omega
              · obtain rfl : j = m := by omega
                have HO4 := Lib.hid (HO3.out HJ.out)
                clear HJ HO3
                go_wp2_with fail
                go_round
                case rel => exact ⟨k + 1, by omega, by go_num, HO4⟩
                case measure => simp [intOf]; omega
      · obtain rfl : n = k := by omega
        go_wp2_with fail
        go_ret
        exact ⟨⟨true, rfl, fun _ => ⟨hen, HO.out⟩⟩, rfl⟩
  · have he2 : ¬ (e : Int) < (n : Int) := by omega
    have he3 : (n : Int) ≤ (e : Int) := by omega
    go_enter Try.func6, Try.ntmps6
    go_wp2_with fail
    go_ret
    exact ⟨⟨false, rfl, fun h => by cases h⟩, rfl⟩
end Go.Proofs.Ytkogmgonceneeaa.css
