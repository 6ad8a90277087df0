/-
  FnUnquotedUTF16UnescapesBack over this seat's program, behind its guards: what the printer lays reads back as the units.
  Conditions: the arguments are readable.
-/
import Derived.Test.YteoeiklojidgnaaFmtWr
import Derived.Test.YteoeiklojidgnaaFmtRj
import Derived.Test.YteoeiklojidgnaaFmtClone80
import Derived.Test.YteoeiklojidgnaaFmtEqb7
import Derived.Test.YteoeiklojidgnaaFmtEqb9
namespace Go.Proofs.YteoeiklojidgnaaFmt.uz
open Go.ChangeShapes Go.WideShapes Go.ChangeAt Go.RowKit
open kit pr uq uw ur

theorem bytes (A : Option Addr) (n c : Nat) (B : Option Addr) (N d : Nat) (v2 v3 : Int) (b4 b5 : Bool) (v6 : Int) (w : World) (hn : n ≤ maxLen) (hN : N ≤ maxLen) :
    Calls Tryf.prog 4 #[.slice A n c, .slice B N d, .int .i32 v2, .int .u8 v3, .bool b4, .bool b5, .int .i64 v6] w fun e w' => (∃ b, e = .returned (.bool b)) ∧ w = w' := by
  unfold maxLen at hn hN
  by_cases h1 : 1048576 < n
  · go_enter Tryf.func4, Tryf.ntmps4
    go_wp2
    go_ret
    exact ⟨⟨_, rfl⟩, rfl⟩
  by_cases h2 : 1048576 < N
  · go_enter Tryf.func4, Tryf.ntmps4
    go_wp2
    go_ret
    exact ⟨⟨_, rfl⟩, rfl⟩
  by_cases h3 : 1048576 < n + N
  · go_enter Tryf.func4, Tryf.ntmps4
    go_wp2
    go_ret
    exact ⟨⟨_, rfl⟩, rfl⟩
  go_enter Tryf.func4, Tryf.ntmps4
  go_wp2
  go_ret
  exact ⟨⟨_, rfl⟩, rfl⟩

/-- the first n of a row of bytes -/
theorem row_head {w : World} {A : Option Addr} {m c : Nat} {L B : List Int} (h : Row w A m c ((L ++ B).map (Value.int .u8))) {n : Nat} (hn : L.length = n) : Row w A n c (L.map (Value.int .u8)) := by
  obtain ⟨h1, h2, h3, h4, h5⟩ := h
  have h1' : L.length + B.length = m := by simpa using h1
  refine ⟨by simpa using hn, by omega, h3, h4, fun h0 => ?_⟩
  obtain ⟨b, off, e1, e2, e3⟩ := h5 (by omega)
  refine ⟨b, off, e1, e2, fun i hi => ?_⟩
  have hi2 : i < L.length := by simpa using hi
  rw [e3 i (by simp; omega)]
  simp [List.getElem_append, hi2]
theorem elem22 : Tryf.prog.underlying 22 = some (.slice (Tryf.prog.elem 22)) := by
  have he : Tryf.prog.elem 22 = 5 := by kernel_rfl
  rw [he]
  exact Tryf.underlying22
theorem cut_lo2 (A : Option Addr) (n c : Nat) (W : World) : ((Result.ok 1 W).andThen fun s w => .ok (sliced A 0 (n : Int).toNat c s) w) = (.ok (.slice A n c) W : Result Value) := by
  have h : sliced A 0 n c 1 = .slice A n c := by
    unfold sliced
    have e : A.map (·.add (0 * 1)) = A := by rcases A with _ | ⟨b, off, s⟩ <;> rfl
    rw [e, ite_self]
    rfl
  show Result.ok (sliced A 0 n c 1) W = _
  rw [h]
/-- the slice of the first n -/
theorem cut_lo (A : Option Addr) (m n c : Nat) (hc : n ≤ c) (W : World) : (Instr.slice 22 (.slice A m c) none (some (.int .i64 (n : Int))) none).run Tryf.prog W = .ok (.slice A n c) W := by
  rw [run_slice_h (P := Tryf.prog) W 22 A m c elem22 .i64 (n : Int) (by omega) (by omega)]
  have hz : (sizeOf (Tryf.prog.elem 22)).run Tryf.prog W = .ok 1 W := by kernel_rfl
  rw [hz]
  exact cut_lo2 A n c W
/-- the slice from n on, and the string that its bytes make -/
theorem cut_hi {w : World} {A : Option Addr} {m c : Nat} {L B : List Int} (h : OwnB w A c (L ++ B)) (hm : (L ++ B).length = m) {n : Nat} (hn : L.length = n) :
    ∃ (A2 : Option Addr) (c2 : Nat), (∀ W : World, (Instr.slice 22 (.slice A m c) (some (.int .i64 (n : Int))) none none).run Tryf.prog W = .ok (.slice A2 B.length c2) W) ∧
      ∀ W : World, Kept w W → (convert 22 9 (.slice A2 B.length c2)).run Tryf.prog W = .ok (.string (strOfNums B)) W := by
  have hml : n + B.length = m := by rw [← hm, ← hn, List.length_append]
  have hcm : m ≤ c := by
    have := (Row.of_own h).2.1
    omega
  have hz : ∀ W : World, (sizeOf (Tryf.prog.elem 22)).run Tryf.prog W = .ok 1 W := fun W => by kernel_rfl
  have hrun : ∀ W : World, (Instr.slice 22 (.slice A m c) (some (.int .i64 (n : Int))) none none).run Tryf.prog W = .ok (sliced A n m c 1) W := fun W => by
    rw [run_slice_l (P := Tryf.prog) W 22 A m c elem22 .i64 (n : Int) (by omega) (by omega), hz W]
    rfl
  have hB : m - n = B.length := by omega
  by_cases h0 : B = []
  · subst h0
    have hmn : m - n = 0 := by simpa using hB
    refine ⟨if c = n then A else A.map (·.add (n * 1)), c - n, fun W => by rw [hrun W, sliced, hmn]; rfl, fun W _ => ?_⟩
    generalize (if c = n then A else A.map (·.add (n * 1))) = A2
    rcases A2 with _ | ⟨b, off, s⟩
    · rw [run_convert_bytes_nil (P := Tryf.prog) W 22 5 Tryf.underlying22 Tryf.underlying5 _ _ 9 Tryf.underlying9]
      rfl
    · rw [run_convert_bytes_string (P := Tryf.prog) W 22 9 5 _ _ _ Tryf.underlying22 Tryf.underlying5 Tryf.underlying9]
      rfl
  · have hpos : 0 < B.length := by rcases B with _ | _ <;> simp at h0 ⊢
    obtain ⟨b, off, hA, hlt, hcell⟩ := (Row.of_own h).2.2.2.2 (by rw [List.length_append]; omega)
    subst hA
    have hcn : c ≠ n := by omega
    refine ⟨some ⟨b, off + n, none⟩, c - n, fun W => ?_, fun W hk => ?_⟩
    · rw [hrun W, sliced, if_neg hcn, hB, Option.map_some, Nat.mul_one, Addr.add_lit]
    · refine run_convert_bytes_arg (P := Tryf.prog) W 22 5 Tryf.underlying22 Tryf.underlying5 b (off + n) B.length (c - n) B rfl (fun i hi => ?_) 9 Tryf.underlying9
      have := hk.cell (hcell (n + i) (by simp; omega))
      rw [show off + n + i = off + (n + i) by omega, this]
      simp [List.getElem_append_right (show L.length ≤ n + i by omega), hn, hi]

set_option maxRecDepth 100000 in
set_option maxHeartbeats 8000000 in
theorem main (A : Option Addr) (n c : Nat) (L : List Int) (ta : Option Addr) (N tc : Nat) (U : List Int) (qt fl lim : Int) (asc ni : Bool) (w : World) (hr : Row w A n c (L.map (Value.int .u8))) (hu : Row w ta N tc (U.map (Value.int .u16))) (hU : ∀ u ∈ U, 0 ≤ u ∧ u < 65536)
    (hl2 : lim ≤ 9223372036854775807) (hl3 : -9223372036854775808 ≤ lim) :
    Calls Tryf.prog 3 #[.slice A n c, .slice ta N tc, .int .i32 qt, .int .u8 fl, .bool asc, .bool ni, .int .i64 lim] w fun e w' => e = .returned (.bool true) ∧ Below w.heap.size w w' := by
  have hLn : L.length = n := by simpa using hr.1
  have hUN : U.length = N := by simpa using hu.1
  have hnm : n ≤ maxLen := Nat.le_trans hr.2.1 hr.2.2.1
  have hNm : N ≤ maxLen := Nat.le_trans hu.2.1 hu.2.2.1
  have HBY := Lib.hid (bytes A n c ta N tc qt fl asc ni lim w hnm hNm)
  unfold maxLen at hnm hNm
  have HR := Lib.hid hr
  have HU := Lib.hid hu
  have HUR := Lib.hid hU
  have HLN := Lib.hid hLn
  have HUN := Lib.hid hUN
  clear hr hu hU hLn hUN
  go_enter Tryf.func3, Tryf.ntmps3
  go_wp2_with fail
  refine HBY.out.mono ?_
  rintro e w' ⟨⟨b, rfl⟩, rfl⟩
  cases b
  · go_wp2_with fail
    go_ret
    exact ⟨rfl, Below.refl _ _⟩
  dsimp only
  by_cases g1 : 1048576 < n
  · go_wp2_with fail
    go_ret
    exact ⟨rfl, Below.refl _ _⟩
  by_cases g2 : 524288 < N
  · go_wp2_with fail
    go_ret
    exact ⟨rfl, Below.refl _ _⟩
  by_cases g3 : 1048576 < n + 2 * N
  · go_wp2_with fail
    go_ret
    exact ⟨rfl, Below.refl _ _⟩
  go_wp2_with fail
  refine (clone80.run A n c L w HR.out (by omega)).mono ?_
  rintro e w1 ⟨a1, rfl, hown1, _, hk1⟩
  have O1 := Lib.hid hown1
  have K1 := Lib.hid hk1
  clear hown1 hk1
  dsimp only
  go_wp2_with fail
  refine (clone80.run a1 n n L w1 (Row.of_own O1.out) (by omega)).mono ?_
  rintro e w2 ⟨a2, rfl, hown2, _, hk2⟩
  have O2 := Lib.hid hown2
  have K2 := Lib.hid hk2
  clear hown2 hk2
  dsimp only
  have htx : ∃ tb tof, (0 < N → ta = some ⟨tb, tof, none⟩) ∧ Tx w1 tb tof U := by
    by_cases h0 : 0 < N
    · obtain ⟨b, off, e1, e2, e3⟩ := HU.out.2.2.2.2 h0
      refine ⟨b, off, fun _ => e1, fun k hk => ?_, fun k hk => ?_⟩
      · have := K1.out.cell (e3 k (by simpa using hk))
        rw [this]; simp [hk]
      · have := HUR.out _ (List.getElem_mem hk)
        simpa [hk] using this
    · have : U = [] := List.length_eq_zero_iff.1 (by rw [HUN.out]; omega)
      subst this
      exact ⟨0, 0, fun h => absurd h h0, fun k hk => absurd hk (by simp), fun k hk => absurd hk (by simp)⟩
  obtain ⟨tb, tof, hta, htx⟩ := htx
  have HTA := Lib.hid hta
  have HTX := Lib.hid htx
  clear hta htx
  go_wp2_with fail
  have HRUN : Hid (Calls Tryf.prog 6 #[.slice a2 n n, .slice ta N tc, .int .i32 qt, .int .u8 fl, .bool asc, .bool ni, .int .i64 lim] w2 (Ran w1 U L)) := Lib.hid (by
    have h := run6 w1 w2 n N tc tb tof a2 ta U L qt fl lim asc ni (by rw [HLN.out]; exact own_mono O2.out (Nat.zero_le _)) K2.out (fun k hk => (O2.out.lt k (by
      rcases a2 with _ | ad
      · cases hk
      · simpa [Value.ownBlock] using hk)).1) hl2 hl3 HUN.out HTX.out HTA.out (by rw [HLN.out]; omega) (by rw [HUN.out]; omega)
    rw [HLN.out] at h
    exact h)
  refine HRUN.out.mono ?_
  rintro e w3 ⟨T, a3, c3, M, rfl, hM, hat, hown3, hk3, _⟩
  have HAT := Lib.hid hat
  have O3 : Hid (OwnB w3 a3 c3 (L ++ bytesT T)) := Lib.hid (by rw [← hM]; exact hown3)
  have K3 := Lib.hid hk3
  have hml : M.length = n + (bytesT T).length := by rw [hM, List.length_append, HLN.out]
  have hbl : (bytesT T).length ≤ 14 * N := by rw [← HUN.out]; exact hat.size
  have HM : Hid ((L ++ bytesT T).length = M.length) := Lib.hid (by rw [hM])
  have hcm : M.length ≤ c3 := (Row.of_own hown3).2.1
  have hlo := cut_lo a3 M.length n c3 (by omega)
  obtain ⟨a4, c4, hhi, hcv⟩ := cut_hi O3.out HM.out HLN.out
  have HCV := Lib.hid hcv
  have HBL := Lib.hid hbl
  have HROWT : Hid (Row w3 a3 n c3 (L.map (Value.int .u8))) := Lib.hid (row_head (Row.of_own O3.out) HLN.out)
  have HROW1 : Hid (Row w3 a1 n n (L.map (Value.int .u8))) := Lib.hid ((Row.of_own O1.out).kept K3.out)
  have hm1 : n ≤ M.length := by omega
  have hm2 : M.length ≤ 1099511627776 := by omega
  clear hM hat hown3 hk3 hcv hml
  generalize M.length = m at *
  dsimp only
  go_wp2_with fail
  refine (eqb7.run a3 n c3 L a1 n n L w3 HROWT.out HROW1.out (by omega) (by omega)).mono ?_
  rintro e w4 ⟨rfl, hk4⟩
  rw [eqb7.sameB_self]
  have K4 := Lib.hid hk4
  clear hk4
  dsimp only
  go_wp2_with fail
  refine (unescape w4 T HAT.out.ok a4 c4 (strOfNums (bytesT T)) (str_of _ (bytesT_range HAT.out.ok)) (by omega) (fun W hW => HCV.out W (hW ▸ K4.out))).mono ?_
  rintro e w5 ⟨a5, n5, c5, rfl, hun⟩
  have HUU : Hid (Row w5 a5 n5 c5 (U.map (Value.int .u16))) := Lib.hid (by
    have h := hun.row
    rw [HAT.out.units, List.take_length] at h
    exact h)
  have K5 : Hid (Kept w w5) := Lib.hid (K1.out.trans (K3.out.trans (K4.out.trans hun.2.2.1)))
  have HUV : Hid (Row w5 ta N tc (U.map (Value.int .u16))) := Lib.hid (HU.out.kept K5.out)
  have hn5 : n5 = N := by rw [← HUN.out]; have := HUU.out.1; simp at this; omega
  clear hun
  subst hn5
  dsimp only
  go_wp2_with fail
  refine (eqb9.run a5 n5 c5 U ta n5 tc U w5 HUU.out HUV.out (by omega) (by omega)).mono ?_
  rintro e w6 ⟨rfl, hk6⟩
  rw [eqb9.sameB_self]
  have K6 : Hid (Kept w w6) := Lib.hid (K5.out.trans hk6)
  clear hk6
  dsimp only
  go_wp2_with fail
  go_ret
  exact ⟨rfl, K6.out⟩
end Go.Proofs.YteoeiklojidgnaaFmt.uz
