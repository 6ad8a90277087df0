/-
  moveBeforeExport over this seat's program: what it answers, said by the plain law's words; the law's words for a match said of the text's bytes.
  Conditions: 0 <= i <= the text's length <= 4096.
-/
import Derived.Test.YtolphikbppmobaaDoorMe
namespace Go.Proofs.YtolphikbppmobaaDoor.mv
open Go.ChangeShapes Go.WideShapes Go.ChangeAt Go.RowKit

theorem six (L : List UInt8) (p : Nat) : (L.take (p + 6)).drop p = ex ↔ ∀ j, j < 6 → L[p + j]? = ex[j]? := by
  constructor
  · intro h j hj
    rw [← h, List.getElem?_drop, List.getElem?_take, if_pos (by omega)]
  · intro h
    refine List.ext_getElem? fun j => ?_
    rw [List.getElem?_drop, List.getElem?_take]
    by_cases hj : j < 6
    · rw [if_pos (by omega)]
      exact h j hj
    · rw [if_neg (by omega)]
      exact (List.getElem?_eq_none (by show 6 ≤ j; omega)).symm
theorem has_iff (l : List UInt8) (k : Nat) (hk : k ≤ l.length) : Lib.hasSuffix (l.take k) ex = true ↔ Suf l k := by
  rw [← Lib.hasSuffix_of_drop, List.length_take, Nat.min_eq_left hk, Bool.and_eq_true, decide_eq_true_eq, beq_iff_eq]
  show 6 ≤ k ∧ (l.take k).drop (k - 6) = ex ↔ _
  constructor
  · rintro ⟨h1, h2⟩
    have e : k = k - 6 + 6 := by omega
    rw [show l.take k = l.take (k - 6 + 6) by rw [← e]] at h2
    exact ⟨h1, (six l (k - 6)).1 h2⟩
  · rintro ⟨h1, h2⟩
    have e : k = k - 6 + 6 := by omega
    refine ⟨h1, ?_⟩
    rw [show l.take k = l.take (k - 6 + 6) by rw [← e]]
    exact (six l (k - 6)).2 h2
theorem len (s : ByteArray) : s.data.toList.length = s.size := (Lib.size_eq s).symm
theorem ext0 (s : ByteArray) (a b : Nat) : (s.extract a b).data.toList = (s.data.toList.drop a).take (b - a) := by
  rw [← Lib.toList_data, Lib.extract_toList]
theorem ext_data (s : ByteArray) (p : Nat) : (s.extract p (p + 6)).data.toList = (s.data.toList.take (p + 6)).drop p := by
  rw [ext0, List.drop_take]
theorem M_iff (s : ByteArray) (i p : Nat) (hi : i ≤ s.size) : M (s.data.toList.take i) p ↔ p + 6 ≤ i ∧ s.extract p (p + 6) = EX ∧ Sp s (p + 6) i := by
  have hl := len s
  have hx : s.extract p (p + 6) = EX ↔ (s.data.toList.take (p + 6)).drop p = ex := by
    rw [← ext_data s p]
    constructor
    · intro h
      rw [h]; rfl
    · intro h
      rw [← Lib.mk_data (s.extract p (p + 6)), h]; rfl
  rw [hx, six]
  unfold M
  rw [List.length_take, Nat.min_eq_left (by omega)]
  constructor
  · rintro ⟨h1, h2, h3⟩
    refine ⟨h1, fun j hj => ?_, fun j h hj1 hj2 => ?_⟩
    · have := h2 j hj
      rwa [List.getElem?_take, if_pos (by omega)] at this
    · refine h3 j s[j] hj1 ?_
      rw [List.getElem?_take, if_pos hj2, List.getElem?_eq_getElem (by omega)]
      rfl
  · rintro ⟨h1, h2, h3⟩
    refine ⟨h1, fun j hj => ?_, fun j b hj1 hj2 => ?_⟩
    · rw [List.getElem?_take, if_pos (by omega)]
      exact h2 j hj
    · rw [List.getElem?_take] at hj2
      split at hj2
      · rename_i hji
        rw [List.getElem?_eq_getElem (by omega)] at hj2
        injection hj2 with e
        subst e
        exact h3 j (by omega) hj1 hji
      · cases hj2

theorem trimT (s T : ByteArray) (h : T.data.toList = Lib.trimRightS s.data.toList cs) (w : World) (hs : s.size ≤ 9223372036854775807) :
    Calls Tryd.prog 9 #[.string s, .string CS] w fun e w' => e = .returned (.string T) ∧ Below w.heap.size w w' := by
  have := trim s w hs
  rwa [← h, Lib.mk_data] at this
theorem suf_t (s : ByteArray) (w : World) (hs : s.size ≤ 9223372036854775807) (h : Lib.hasSuffix s.data.toList ex = true) :
    Calls Tryd.prog 10 #[.string s, .string EX] w fun e w' => e = .returned (.bool true) ∧ w' = w := by
  have := suf s w hs
  rwa [h] at this
theorem suf_f (s : ByteArray) (w : World) (hs : s.size ≤ 9223372036854775807) (h : ¬ Lib.hasSuffix s.data.toList ex = true) :
    Calls Tryd.prog 10 #[.string s, .string EX] w fun e w' => e = .returned (.bool false) ∧ w' = w := by
  have := suf s w hs
  rwa [Bool.eq_false_iff.2 h] at this
open Classical in
noncomputable def got (l : List UInt8) (k i : Nat) : Int := if Suf l k then (k : Int) - 6 else i

theorem move (s : ByteArray) (i k : Nat) (hi : i ≤ s.size) (hm : s.size ≤ 4096) (hk : k ≤ (s.data.toList.take i).length) (hT : Lib.trimRightS (s.data.toList.take i) cs = (s.data.toList.take i).take k) (w : World) :
    Calls Tryd.prog 7 #[.string s, .int .i64 (i : Int)] w fun e w' => e = .returned (.int .i64 (got (s.data.toList.take i) k i)) ∧ Below w.heap.size w w' := by
  have hl := len s
  have hU : (s.extract 0 i).data.toList = s.data.toList.take i := by rw [ext0, List.drop_zero, Nat.sub_zero]
  have hUs : (s.extract 0 i).size = i := by rw [ByteArray.size_extract]; omega
  obtain ⟨T, hTd⟩ : ∃ T : ByteArray, T.data.toList = (s.data.toList.take i).take k := ⟨⟨((s.data.toList.take i).take k).toArray⟩, rfl⟩
  have hTs : T.size = k := by rw [← len, hTd, List.length_take]; omega
  have hki : k ≤ i := by rw [List.length_take] at hk; omega
  have HT := Lib.hid (show T.data.toList = Lib.trimRightS (s.extract 0 i).data.toList cs by rw [hU, hT, hTd])
  have HS : Hid (Lib.hasSuffix T.data.toList ex = true ↔ Suf (s.data.toList.take i) k) := Lib.hid (by rw [hTd]; exact has_iff _ _ hk)
  have HL := Lib.hid (show (s.extract 0 i).size ≤ 9223372036854775807 by omega)
  have HG : Hid (∀ r, r = got (s.data.toList.take i) k i ↔ (Suf (s.data.toList.take i) k ∧ r = (k : Int) - 6 ∨ ¬ Suf (s.data.toList.take i) k ∧ r = i)) := Lib.hid fun r => by
    unfold got
    split <;> rename_i h <;> simp [h]
  generalize got (s.data.toList.take i) k i = G at *
  generalize hSS : Suf (s.data.toList.take i) k = SS at *
  clear hSS hU hT hTd hk hl
  go_enter Tryd.func7, Tryd.ntmps7
  go_wp2_with fail
  refine (trimT (s.extract 0 i) T HT.out w HL.out).mono ?_
  rintro e w1 ⟨rfl, hb⟩
  have HB := Lib.hid hb
  clear hb
  by_cases hh : SS
  · have HH := Lib.hid hh
    clear hh
    go_wp2_with fail
    refine (suf_t T w1 (by omega) (HS.out.2 HH.out)).mono ?_
    rintro e w2 ⟨rfl, rfl⟩
    go_wp2
    go_ret
    exact ⟨congrArg _ (congrArg _ ((HG.out _).2 (.inl ⟨HH.out, by omega⟩))), HB.out⟩
  · have HH := Lib.hid hh
    clear hh
    go_wp2_with fail
    refine (suf_f T w1 (by omega) (fun h => HH.out (HS.out.1 h))).mono ?_
    rintro e w2 ⟨rfl, rfl⟩
    go_wp2
    go_ret
    exact ⟨congrArg _ (congrArg _ ((HG.out _).2 (.inr ⟨HH.out, rfl⟩))), HB.out⟩
end Go.Proofs.YtolphikbppmobaaDoor.mv
