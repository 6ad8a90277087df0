/-
  The walk of FnCurrentLineLengthIncremental: Printing a text in any sequence of chunks, currentLineLength after each chunk is the length of the last line of everything printed so far.
  Conditions: none beyond those of the given statement Rows.FnCurrentLineLengthIncrementalSaid.
-/
import Derived.Test.YtgoffcpchgepeaaRows
import Derived.WalkKit
import Derived.ProofKit
import Derived.OpenShut
import Derived.ShutString
import Derived.ChangeOld
import Derived.Below
import Derived.Test.YtgoffcpchgepeaaLine
import Derived.Test.YtgoffcpchgepeaaCloneI
import Derived.Lib.Strings
namespace Go.Proofs.Ytgoffcpchgepeaa.fnCurrentLineLengthIncremental
open Go.ChangeShapes Go.WideShapes Go.ChangeAt Go.RowKit
open Go.ChangeMaps (open_string shut_string)
set_option linter.unusedVariables false


/-- WHAT THE WALK IS TOLD OF A SLICE OF INTEGERS THAT CAME IN: it is nil; or it leads to a row of 'cap' cells, the numbers 'zs' (the first 'len' are its elements, the rest its spare room), each fitting its kind. -/
def IsRow (k : IntKind) (w : World) (a : Option Addr) (len cap : Nat) (zs : List Int) : Prop :=
  (a = none ∧ len = 0 ∧ cap = 0 ∧ zs = []) ∨
  ∃ x, a = some x ∧ len ≤ cap ∧ cap ≤ maxLen ∧ zs.length = cap ∧ (∀ i, i < zs.length → w.cell? (x.add i) = some (.int k (zs.getD i 0))) ∧ ∀ n ∈ zs, (Lit.int k n).wf = true

open kit pr line
theorem bytes (s : ByteArray) (A : Option Addr) (n cap : Nat) (w : World) (hm : s.size ≤ maxLen) (hn : n ≤ maxLen) :
    Calls Try.prog 44 #[.string s, .slice A n cap] w fun e w' => (∃ b, e = .returned (.bool b)) ∧ w = w' := by
  unfold maxLen at hm hn
  by_cases h1 : 1048576 < s.size
  · go_enter Try.func44, Try.ntmps44
    go_wp2
    go_ret
    exact ⟨⟨_, rfl⟩, rfl⟩
  by_cases h2 : 1048576 < n
  · go_enter Try.func44, Try.ntmps44
    go_wp2
    go_ret
    exact ⟨⟨_, rfl⟩, rfl⟩
  by_cases h3 : 1048576 < s.size + n
  · go_enter Try.func44, Try.ntmps44
    go_wp2
    go_ret
    exact ⟨⟨_, rfl⟩, rfl⟩
  go_enter Try.func44, Try.ntmps44
  go_wp2
  go_ret
  exact ⟨⟨_, rfl⟩, rfl⟩

theorem bytesOf_extract (s : ByteArray) (d c : Nat) (h : d ≤ c) : (bytesOf s).take d ++ bytesOf (s.extract d c) = (bytesOf s).take c := by
  have e : bytesOf (s.extract d c) = ((bytesOf s).drop d).take (c - d) := by
    unfold bytesOf
    rw [Lib.extract_data, List.map_take, List.map_drop]
  have e2 : c = d + (c - d) := by omega
  rw [e]
  conv => rhs; rw [e2]
  rw [List.take_add]
theorem slice9 (s : ByteArray) (d c : Nat) (h : d ≤ c) (h2 : c ≤ s.size) (w : World) : (Instr.slice 9 (.string s) (some (.int .i64 (d : Int))) (some (.int .i64 (c : Int))) none).run Try.prog w = .ok (.string (s.extract d c)) w := by
  have := run_slice_string (P := Try.prog) w 9 s .i64 .i64 (d : Int) (c : Int) Try.underlying9 (by omega) (by omega) (by omega)
  rw [Int.toNat_natCast, Int.toNat_natCast] at this
  exact this
theorem index9 (s : ByteArray) (i : Nat) (h : i < s.size) (w : World) : (Instr.index 9 (.string s) (.int .i64 (i : Int))).run Try.prog w = .ok (.int .u8 ((bytesOf s).getD i 0)) w := by
  rw [run_index_string w 9 s .i64 (i : Int) Try.underlying9, dif_pos (by omega)]
  have h2 : i < s.data.toList.length := by simpa using h
  have e : (bytesOf s).getD i 0 = ((s.data.toList[i] : UInt8).toNat : Int) := by
    unfold bytesOf
    rw [List.getD_eq_getElem?_getD, List.getElem?_map, List.getElem?_eq_getElem h2]
    rfl
  rw [e]
  simp [ByteArray.getElem_eq_getElem_data]

/-- what holds at the head of each round -/
def Inv (w1 : World) (n : Nat) (s : ByteArray) (t6 t7 t8 : Value) (wr : World) : Prop :=
  ∃ (k d : Nat) (cs : List Value) (a : Option Addr) (c : Nat), k ≤ n ∧ d ≤ s.size ∧ t6 = .int .i64 (d : Int) ∧ t7 = .int .i64 (lsU (bytesOf s) d : Int) ∧ t8 = .int .i64 (k : Int) ∧
    Pr wr w1.heap.size cs a c ((bytesOf s).take d) ∧ cs[69]? = some (.int .i64 (lsU (bytesOf s) d : Int)) ∧ cs[70]? = some (.int .i64 (d : Int)) ∧ Kept w1 wr ∧ (∀ q, a.map (·.block) = some q → w1.heap.size ≤ q)

set_option maxRecDepth 100000 in
set_option maxHeartbeats 8000000 in
theorem main (s : ByteArray) (A : Option Addr) (n cap : Nat) (xs : List Int) (w : World) (hr : Row w A n cap (xs.map (Value.int .i64))) (hs : s.size ≤ 65536) (hn : n ≤ 4096) :
    Calls Try.prog 8 #[.string s, .slice A n cap] w fun e w' => e = .returned (.bool true) ∧ Below w.heap.size w w' := by
  have hlen : xs.length = n := by simpa using hr.1
  have HR := Lib.hid hr
  have HL := Lib.hid hlen
  clear hr hlen
  go_enter Try.func8, Try.ntmps8
  go_wp2_with fail
  refine (bytes s A n cap w (by unfold maxLen; omega) (by unfold maxLen; omega)).mono ?_
  rintro e w' ⟨⟨b, rfl⟩, rfl⟩
  cases b
  · go_wp2
    go_ret
    exact ⟨rfl, Below.refl _ _⟩
  go_wp2_with fail
  refine (cloneI.run A n cap xs w HR.out (by omega)).mono ?_
  rintro e w1 ⟨a1, rfl, hown1, _, hk1⟩
  have O1 := Lib.hid hown1
  have K1 := Lib.hid hk1
  clear hown1 hk1
  go_wp2_with fail
  refine (new265 w1 none 0 [] false false 0 0 (World.ownsRow_nil _ _ _ _)).mono ?_
  rintro e w2 ⟨cs1, rfl, hp1, _, _, _, h69, h70, _, _, hk2⟩
  have I0 : Inv w1 n s (.int .i64 0) (.int .i64 0) (.int .i64 0) w2 := ⟨0, 0, cs1, none, 0, by omega, by omega, rfl, rfl, rfl, hp1, h69, h70, hk2, by simp⟩
  have HI := Lib.hid I0
  clear I0 hp1 h69 h70 hk2
  go_wp2
  go_loopw [6, 7, 8] (fun t6 t7 t8 wr => Inv w1 n s t6 t7 t8 wr) (fun _ _ t _ => n - (intOf t).toNat)
  case atStart => exact HI.out
  case round =>
    obtain ⟨k, d, cs, a, c, hk, hd, rfl, rfl, rfl, hp, h69, h70, hkw, hab⟩ := hrel
    have hls := lsU_le (bytesOf s) d
    have HP := Lib.hid hp
    have H69 := Lib.hid h69
    have H70 := Lib.hid h70
    have HK := Lib.hid hkw
    have HA := Lib.hid hab
    clear hp h69 h70 hkw hab
    by_cases hlt : k < n
    · obtain ⟨b, off, hA, hbl, hcell⟩ := (Row.of_own O1.out).2.2.2.2 (by omega)
      have hkx : k < xs.length := by rw [HL.out]; exact hlt
      subst hA
      have hck : wr.cell? ⟨b, off + k, none⟩ = some (.int .i64 (xs.getD k 0)) := by
        have := HK.out.cell (hcell k (by simpa using hkx))
        rw [this]; simp [hkx]
      clear hcell hbl
      generalize xs.getD k 0 = x at *
      have hcase : ∃ e : Nat, d ≤ e ∧ e ≤ s.size ∧ ((x < (d : Int) ∧ e = d) ∨ (¬ x < (d : Int) ∧ (s.size : Int) < x ∧ e = s.size) ∨ (¬ x < (d : Int) ∧ ¬ (s.size : Int) < x ∧ x = (e : Int))) := by
        by_cases q1 : x < (d : Int)
        · exact ⟨d, Nat.le_refl _, hd, .inl ⟨q1, rfl⟩⟩
        · by_cases q2 : (s.size : Int) < x
          · exact ⟨s.size, hd, Nat.le_refl _, .inr (.inl ⟨q1, q2, rfl⟩)⟩
          · exact ⟨x.toNat, by omega, by omega, .inr (.inr ⟨q1, q2, by omega⟩)⟩
      obtain ⟨e, he1, he2, hcs⟩ := hcase
      have hsl := slice9 s d e he1 he2
      have hix := index9 s
      have hbx := Lib.hid (bytesOf_extract s d e he1)
      have hsz : (s.extract d e).size ≤ 65536 := by rw [ByteArray.size_extract]; omega
      have hBl : (bytesOf s).length = s.size := bytesOf_length s
      have htl : ((bytesOf s).take d).length = d := by rw [List.length_take, hBl]; omega
      have hte : ((bytesOf s).take e).length = e := by rw [List.length_take, hBl]; omega
      have HTE := Lib.hid hte
      have HTL := Lib.hid htl
      clear hte htl hBl
      have hle := lsU_le (bytesOf s) e
      generalize hX : s.extract d e = ex at *
      have HX := Lib.hid hX
      clear hX
      rcases hcs with ⟨q1, q3⟩ | ⟨q1, q2, q3⟩ | ⟨q1, q2, q3⟩
      · have q4 : d = e := q3.symm
        subst q4
        go_wp2_with fail
        refine (zzprint wr w1.heap.size cs a c _ ex HP.out (by rw [HTL.out]; omega)).mono ?_
        rintro e0 w3 ⟨a3, c3, rfl, hp3, hs3⟩
        rw [hbx.out] at hp3
        have HP3 := Lib.hid hp3
        have HS3 := Lib.hid hs3
        clear hp3 hs3
        go_wp2
        go_loop [7, 10] (fun t7 t10 => ∃ i : Nat, d ≤ i ∧ i ≤ d ∧ t7 = .int .i64 (lsU (bytesOf s) i : Int) ∧ t10 = .int .i64 (i : Int)) (fun _ t => 65536 - (intOf t).toNat)
        case atStart => exact ⟨d, Nat.le_refl _, he1, rfl, rfl⟩
        case round =>
          obtain ⟨i, hi1, hi2, rfl, rfl⟩ := hrel
          have hli := lsU_le (bytesOf s) i
          by_cases hie : i < d
          · have hx := hix i (by omega)
            have s1 := @lsU_nl (bytesOf s) i
            have s2 := @lsU_no (bytesOf s) i
            cases hnl : isNl ((bytesOf s).getD i 0)
            · have S2 := Lib.hid (s2 hnl)
              have x1 : ((bytesOf s).getD i 0 == 13) = false := by simp only [isNl, Bool.or_eq_false_iff] at hnl; exact hnl.1
              have x2 : ((bytesOf s).getD i 0 == 10) = false := by simp only [isNl, Bool.or_eq_false_iff] at hnl; exact hnl.2
              clear hnl s1 s2 hix
              generalize (bytesOf s).getD i 0 = y at *
              go_wp2
              go_round
              case rel => exact ⟨i + 1, by omega, by omega, by rw [S2.out], by go_num⟩
              case measure => simp [intOf]; omega
            · have S1 := Lib.hid (s1 hnl)
              have x3 : ((bytesOf s).getD i 0 == 10) = true ∨ (((bytesOf s).getD i 0 == 10) = false ∧ ((bytesOf s).getD i 0 == 13) = true) := by
                simp only [isNl, Bool.or_eq_true] at hnl
                rcases bools ((bytesOf s).getD i 0 == 10) with q | q
                · rw [q] at hnl; right; exact ⟨q, by simpa using hnl⟩
                · exact .inl q
              clear hnl s1 s2 hix
              generalize (bytesOf s).getD i 0 = y at *
              rcases x3 with x1 | ⟨x1, x2⟩
              all_goals
                go_wp2
                go_round
                case rel => exact ⟨i + 1, by omega, by omega, by rw [S1.out]; go_num, by go_num⟩
                case measure => simp [intOf]; omega
          · have hie2 : i = d := by omega
            subst hie2
            clear hix
            have hp3 := HP3.out
            have g69 : (cs.set J (.slice a3 ((bytesOf s).take i).length c3))[69]? = some (.int .i64 (lsU ((bytesOf s).take i) i : Int)) := by
              rw [List.getElem?_set_ne (by decide), lsU_take _ _ _ hi1]; exact H69.out
            have g70 : (cs.set J (.slice a3 ((bytesOf s).take i).length c3))[70]? = some (.int .i64 (i : Int)) := by
              rw [List.getElem?_set_ne (by decide)]; exact H70.out
            have HZ := Lib.hid (zzline w3 w1.heap.size _ a3 c3 _ i hp3 g69 g70 (by rw [HTE.out]; exact hi1) (by rw [HTE.out]; omega))
            clear hp3 g69 g70
            go_wp2_with fail
            refine HZ.out.mono ?_
            rintro e0 w4 ⟨cs4, rfl, hp4, h469, h470, _, hs4⟩
            rw [HTE.out, lsU_take _ _ _ (Nat.le_refl _)] at h469
            rw [HTE.out] at h470
            rw [HTE.out, lsU_take _ _ _ (Nat.le_refl _)]
            have hsA := HS3.out
            have hR : Inv w1 n s (.int .i64 (i : Int)) (.int .i64 (lsU (bytesOf s) i : Int)) (.int .i64 ((k : Int) + 1)) w4 := by
              have hA3 := hsA.from HA.out HK.out.size
              refine ⟨k + 1, i, cs4, a3, c3, by omega, by omega, rfl, rfl, by go_num, hp4, h469, h470, ?_, hA3⟩
              have b1 : Below w1.heap.size wr w3 := hsA.below (Nat.le_refl _) HA.out HK.out.size
              have b2 : Below w1.heap.size w3 w4 := hs4.below (Nat.le_refl _) (by simp) (Nat.le_trans HK.out.size hsA.size)
              exact Below.trans (Below.trans HK.out b1) b2
            have HRR := Lib.hid hR
            clear hR hp4 h469 h470 hs4 hsA
            go_wp2
            go_roundw
            case rel => first | exact HRR.out | ((repeat apply Exists.intro); exact ⟨HRR.out, rfl⟩)
            case measure => simp [intOf]; omega
      · subst q3
        go_wp2_with fail
        refine (zzprint wr w1.heap.size cs a c _ ex HP.out (by rw [HTL.out]; omega)).mono ?_
        rintro e0 w3 ⟨a3, c3, rfl, hp3, hs3⟩
        rw [hbx.out] at hp3
        have HP3 := Lib.hid hp3
        have HS3 := Lib.hid hs3
        clear hp3 hs3
        go_wp2
        go_loop [7, 10] (fun t7 t10 => ∃ i : Nat, d ≤ i ∧ i ≤ s.size ∧ t7 = .int .i64 (lsU (bytesOf s) i : Int) ∧ t10 = .int .i64 (i : Int)) (fun _ t => 65536 - (intOf t).toNat)
        case atStart => exact ⟨d, Nat.le_refl _, he1, rfl, rfl⟩
        case round =>
          obtain ⟨i, hi1, hi2, rfl, rfl⟩ := hrel
          have hli := lsU_le (bytesOf s) i
          by_cases hie : i < s.size
          · have hx := hix i (by omega)
            have s1 := @lsU_nl (bytesOf s) i
            have s2 := @lsU_no (bytesOf s) i
            cases hnl : isNl ((bytesOf s).getD i 0)
            · have S2 := Lib.hid (s2 hnl)
              have x1 : ((bytesOf s).getD i 0 == 13) = false := by simp only [isNl, Bool.or_eq_false_iff] at hnl; exact hnl.1
              have x2 : ((bytesOf s).getD i 0 == 10) = false := by simp only [isNl, Bool.or_eq_false_iff] at hnl; exact hnl.2
              clear hnl s1 s2 hix
              generalize (bytesOf s).getD i 0 = y at *
              go_wp2
              go_round
              case rel => exact ⟨i + 1, by omega, by omega, by rw [S2.out], by go_num⟩
              case measure => simp [intOf]; omega
            · have S1 := Lib.hid (s1 hnl)
              have x3 : ((bytesOf s).getD i 0 == 10) = true ∨ (((bytesOf s).getD i 0 == 10) = false ∧ ((bytesOf s).getD i 0 == 13) = true) := by
                simp only [isNl, Bool.or_eq_true] at hnl
                rcases bools ((bytesOf s).getD i 0 == 10) with q | q
                · rw [q] at hnl; right; exact ⟨q, by simpa using hnl⟩
                · exact .inl q
              clear hnl s1 s2 hix
              generalize (bytesOf s).getD i 0 = y at *
              rcases x3 with x1 | ⟨x1, x2⟩
              all_goals
                go_wp2
                go_round
                case rel => exact ⟨i + 1, by omega, by omega, by rw [S1.out]; go_num, by go_num⟩
                case measure => simp [intOf]; omega
          · have hie2 : i = s.size := by omega
            subst hie2
            clear hix
            have hp3 := HP3.out
            have g69 : (cs.set J (.slice a3 ((bytesOf s).take s.size).length c3))[69]? = some (.int .i64 (lsU ((bytesOf s).take s.size) d : Int)) := by
              rw [List.getElem?_set_ne (by decide), lsU_take _ _ _ hi1]; exact H69.out
            have g70 : (cs.set J (.slice a3 ((bytesOf s).take s.size).length c3))[70]? = some (.int .i64 (d : Int)) := by
              rw [List.getElem?_set_ne (by decide)]; exact H70.out
            have HZ := Lib.hid (zzline w3 w1.heap.size _ a3 c3 _ d hp3 g69 g70 (by rw [HTE.out]; exact hi1) (by rw [HTE.out]; omega))
            clear hp3 g69 g70
            go_wp2_with fail
            refine HZ.out.mono ?_
            rintro e0 w4 ⟨cs4, rfl, hp4, h469, h470, _, hs4⟩
            rw [HTE.out, lsU_take _ _ _ (Nat.le_refl _)] at h469
            rw [HTE.out] at h470
            rw [HTE.out, lsU_take _ _ _ (Nat.le_refl _)]
            have hsA := HS3.out
            have hR : Inv w1 n s (.int .i64 (s.size : Int)) (.int .i64 (lsU (bytesOf s) s.size : Int)) (.int .i64 ((k : Int) + 1)) w4 := by
              have hA3 := hsA.from HA.out HK.out.size
              refine ⟨k + 1, s.size, cs4, a3, c3, by omega, by omega, rfl, rfl, by go_num, hp4, h469, h470, ?_, hA3⟩
              have b1 : Below w1.heap.size wr w3 := hsA.below (Nat.le_refl _) HA.out HK.out.size
              have b2 : Below w1.heap.size w3 w4 := hs4.below (Nat.le_refl _) (by simp) (Nat.le_trans HK.out.size hsA.size)
              exact Below.trans (Below.trans HK.out b1) b2
            have HRR := Lib.hid hR
            clear hR hp4 h469 h470 hs4 hsA
            go_wp2
            go_roundw
            case rel => first | exact HRR.out | ((repeat apply Exists.intro); exact ⟨HRR.out, rfl⟩)
            case measure => simp [intOf]; omega
      · subst q3
        go_wp2_with fail
        refine (zzprint wr w1.heap.size cs a c _ ex HP.out (by rw [HTL.out]; omega)).mono ?_
        rintro e0 w3 ⟨a3, c3, rfl, hp3, hs3⟩
        rw [hbx.out] at hp3
        have HP3 := Lib.hid hp3
        have HS3 := Lib.hid hs3
        clear hp3 hs3
        go_wp2
        go_loop [7, 10] (fun t7 t10 => ∃ i : Nat, d ≤ i ∧ i ≤ e ∧ t7 = .int .i64 (lsU (bytesOf s) i : Int) ∧ t10 = .int .i64 (i : Int)) (fun _ t => 65536 - (intOf t).toNat)
        case atStart => exact ⟨d, Nat.le_refl _, he1, rfl, rfl⟩
        case round =>
          obtain ⟨i, hi1, hi2, rfl, rfl⟩ := hrel
          have hli := lsU_le (bytesOf s) i
          by_cases hie : i < e
          · have hx := hix i (by omega)
            have s1 := @lsU_nl (bytesOf s) i
            have s2 := @lsU_no (bytesOf s) i
            cases hnl : isNl ((bytesOf s).getD i 0)
            · have S2 := Lib.hid (s2 hnl)
              have x1 : ((bytesOf s).getD i 0 == 13) = false := by simp only [isNl, Bool.or_eq_false_iff] at hnl; exact hnl.1
              have x2 : ((bytesOf s).getD i 0 == 10) = false := by simp only [isNl, Bool.or_eq_false_iff] at hnl; exact hnl.2
              clear hnl s1 s2 hix
              generalize (bytesOf s).getD i 0 = y at *
              go_wp2
              go_round
              case rel => exact ⟨i + 1, by omega, by omega, by rw [S2.out], by go_num⟩
              case measure => simp [intOf]; omega
            · have S1 := Lib.hid (s1 hnl)
              have x3 : ((bytesOf s).getD i 0 == 10) = true ∨ (((bytesOf s).getD i 0 == 10) = false ∧ ((bytesOf s).getD i 0 == 13) = true) := by
                simp only [isNl, Bool.or_eq_true] at hnl
                rcases bools ((bytesOf s).getD i 0 == 10) with q | q
                · rw [q] at hnl; right; exact ⟨q, by simpa using hnl⟩
                · exact .inl q
              clear hnl s1 s2 hix
              generalize (bytesOf s).getD i 0 = y at *
              rcases x3 with x1 | ⟨x1, x2⟩
              all_goals
                go_wp2
                go_round
                case rel => exact ⟨i + 1, by omega, by omega, by rw [S1.out]; go_num, by go_num⟩
                case measure => simp [intOf]; omega
          · have hie2 : e = i := by omega
            subst hie2
            clear hix
            have hp3 := HP3.out
            have g69 : (cs.set J (.slice a3 ((bytesOf s).take e).length c3))[69]? = some (.int .i64 (lsU ((bytesOf s).take e) d : Int)) := by
              rw [List.getElem?_set_ne (by decide), lsU_take _ _ _ hi1]; exact H69.out
            have g70 : (cs.set J (.slice a3 ((bytesOf s).take e).length c3))[70]? = some (.int .i64 (d : Int)) := by
              rw [List.getElem?_set_ne (by decide)]; exact H70.out
            have HZ := Lib.hid (zzline w3 w1.heap.size _ a3 c3 _ d hp3 g69 g70 (by rw [HTE.out]; exact hi1) (by rw [HTE.out]; omega))
            clear hp3 g69 g70
            go_wp2_with fail
            refine HZ.out.mono ?_
            rintro e0 w4 ⟨cs4, rfl, hp4, h469, h470, _, hs4⟩
            rw [HTE.out, lsU_take _ _ _ (Nat.le_refl _)] at h469
            rw [HTE.out] at h470
            rw [HTE.out, lsU_take _ _ _ (Nat.le_refl _)]
            have hsA := HS3.out
            have hR : Inv w1 n s (.int .i64 (e : Int)) (.int .i64 (lsU (bytesOf s) e : Int)) (.int .i64 ((k : Int) + 1)) w4 := by
              have hA3 := hsA.from HA.out HK.out.size
              refine ⟨k + 1, e, cs4, a3, c3, by omega, by omega, rfl, rfl, by go_num, hp4, h469, h470, ?_, hA3⟩
              have b1 : Below w1.heap.size wr w3 := hsA.below (Nat.le_refl _) HA.out HK.out.size
              have b2 : Below w1.heap.size w3 w4 := hs4.below (Nat.le_refl _) (by simp) (Nat.le_trans HK.out.size hsA.size)
              exact Below.trans (Below.trans HK.out b1) b2
            have HRR := Lib.hid hR
            clear hR hp4 h469 h470 hs4 hsA
            go_wp2
            go_roundw
            case rel => first | exact HRR.out | ((repeat apply Exists.intro); exact ⟨HRR.out, rfl⟩)
            case measure => simp [intOf]; omega
    · obtain rfl : k = n := by omega
      go_wp2
      go_ret
      exact ⟨rfl, (K1.out.trans HK.out).below⟩

theorem walk (a0 : ByteArray) (a1 : Option Addr) (len1 cap1 : Nat) (z1 : List Int) (w : World) (w0 : a0.size ≤ maxLen) (w1 : IsRow .i64 w a1 len1 cap1 z1) :
    Calls Try.prog 8 #[.string a0, .slice a1 len1 cap1] w fun e w' => e = .returned (.bool true) ∧ Below w.heap.size w w' := by
  have hrow : Row w a1 len1 cap1 ((z1.take len1).map (Value.int .i64)) := by
    rcases w1 with ⟨rfl, rfl, rfl, rfl⟩ | ⟨x, rfl, hl, hm, hz, hcell, hwz⟩
    · exact Row.nil w
    · exact Row.of_cells hl hm hz hcell
  have hml : len1 ≤ maxLen := Nat.le_trans hrow.2.1 hrow.2.2.1
  have HR := Lib.hid hrow
  clear w1 hrow
  by_cases c1 : 65536 < a0.size
  · have HB := Lib.hid (bytes a0 a1 len1 cap1 w w0 hml)
    unfold maxLen at w0 hml
    go_enter Try.func8, Try.ntmps8
    go_wp2_with fail
    refine HB.out.mono ?_
    rintro e w' ⟨⟨b, rfl⟩, rfl⟩
    cases b
    all_goals
      go_wp2
      go_ret
      exact ⟨rfl, Below.refl _ _⟩
  by_cases c2 : 4096 < len1
  · have HB := Lib.hid (bytes a0 a1 len1 cap1 w w0 hml)
    unfold maxLen at w0 hml
    go_enter Try.func8, Try.ntmps8
    go_wp2_with fail
    refine HB.out.mono ?_
    rintro e w' ⟨⟨b, rfl⟩, rfl⟩
    cases b
    all_goals
      go_wp2
      go_ret
      exact ⟨rfl, Below.refl _ _⟩
  exact main a0 a1 len1 cap1 _ w HR.out (by omega) (by omega)
end Go.Proofs.Ytgoffcpchgepeaa.fnCurrentLineLengthIncremental
