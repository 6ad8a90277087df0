/-
  Token and condition equality over this seat's program.
  Conditions: the lists lie in memory as the builder lays them.
-/
import Derived.Test.YtdnpdfiiajjcnaaIc
import Derived.LoopTactic
import Derived.Outline
import Derived.IntWalk
import Derived.Deep.QuietTactic
import Derived.BigQuiet
import Derived.Deep.RegionHeld3
import Derived.Deep.DeepCutAuto
import Derived.RegionTactic
namespace Go.Proofs.Ytdnpdfiiajjcnaa.ic
open Go.ChangeShapes Go.WideShapes Go.ChangeAt Go.RowKit
open kit

def sameS (s t : ByteArray) : Bool := decide (s.toList = t.toList)
open Classical in
noncomputable def sameL (s t : List ByteArray) : Bool := decide (lits s = lits t)
set_option maxRecDepth 100000 in
set_option maxHeartbeats 4000000 in
theorem tokEq (s t : ByteArray) (z1 z2 : Int) (w : World) : Calls Try.prog 16 #[.agg #[.pointer none, .string s, .int .i32 0, .int .u32 0, .int .u16 0, .int .u8 29, .int .u8 z1], .agg #[.pointer none, .string t, .int .i32 0, .int .u32 0, .int .u16 0, .int .u8 29, .int .u8 z2]] w fun e w' => e = .returned (.bool (sameS s t)) ∧ Kept w w' := by
  by_cases h : s.toList = t.toList
  · have hs : sameS s t = true := by unfold sameS; exact decide_eq_true h
    rw [hs]
    clear hs
    go_enter Try.func16, Try.ntmps16
    go_wp2_with fail
    go_ret
    exact ⟨rfl, ((Kept.refl w).alloc _).alloc _⟩
  · have hs : sameS s t = false := by unfold sameS; exact decide_eq_false h
    rw [hs]
    clear hs
    go_enter Try.func16, Try.ntmps16
    go_wp2_with fail
    go_ret
    exact ⟨rfl, ((Kept.refl w).alloc _).alloc _⟩
theorem mediaEq (w : World) : Calls Try.prog 15 #[.slice none 0 0, .slice none 0 0] w fun e w' => e = .returned (.bool true) ∧ w = w' := by
  go_enter Try.func15, Try.ntmps15
  go_wp2
  go_loop [14] (fun t => t = .int .i64 0) (fun _ => 0)
  case atStart => rfl
  case round =>
    obtain rfl := hrel
    go_wp2
    go_ret
    exact ⟨rfl, rfl⟩
def T14 (w : World) (n m : Nat) (ss ts : List ByteArray) (t14 : Value) (W : World) : Prop := ∃ k : Nat, k ≤ n ∧ t14 = .int .i64 (k : Int) ∧ Kept w W ∧ Hid (∀ i, i < k → (ss.getD i ByteArray.empty).toList = (ts.getD i ByteArray.empty).toList)
theorem lits_ext {ss ts : List ByteArray} (hl : ss.length = ts.length) (h : ∀ i, i < ss.length → (ss.getD i ByteArray.empty).toList = (ts.getD i ByteArray.empty).toList) : lits ss = lits ts := by
  unfold lits
  apply List.ext_getElem
  · simpa using hl
  · intro i h1 h2
    have h1' : i < ss.length := by simpa using h1
    have h2' : i < ts.length := by simpa using h2
    have := h i h1'
    rw [List.getD_eq_getElem?_getD, List.getD_eq_getElem?_getD, List.getElem?_eq_getElem h1', List.getElem?_eq_getElem h2'] at this
    simpa using this
theorem lits_ne {ss ts : List ByteArray} {i : Nat} (h1 : i < ss.length) (h2 : i < ts.length) (h : (ss.getD i ByteArray.empty).toList ≠ (ts.getD i ByteArray.empty).toList) : lits ss ≠ lits ts := fun e => h (by
  have := congrArg (fun l => l[i]?) e
  unfold lits at this
  simp only [List.getElem?_map, List.getElem?_eq_getElem h1, List.getElem?_eq_getElem h2, Option.map_some, Option.some.injEq] at this
  rw [List.getD_eq_getElem?_getD, List.getD_eq_getElem?_getD, List.getElem?_eq_getElem h1, List.getElem?_eq_getElem h2]
  simpa using this)
theorem lits_len {ss ts : List ByteArray} (h : ss.length ≠ ts.length) : lits ss ≠ lits ts := fun e => h (by
  have := congrArg List.length e
  simpa [lits] using this)
set_option maxRecDepth 100000 in
set_option maxHeartbeats 8000000 in
theorem tokensEq (v1 v2 : Value) (ss ts : List ByteArray) (w : World) (h1 : Tk w v1 ss) (h2 : Tk w v2 ts) (hn : ss.length ≤ 1048576) : Calls Try.prog 14 #[v1, v2] w fun e w' => e = .returned (.bool (sameL ss ts)) ∧ Kept w w' := by
  obtain ⟨a1, rfl, hz1⟩ := h1.form
  obtain ⟨a2, rfl, hz2⟩ := h2.form
  by_cases hl : ss.length = ts.length
  · have HL := Lib.hid hl
    rw [← hl] at h2 hz2 ⊢
    have H1 := Lib.hid h1
    have H2 := Lib.hid h2
    have HS0 : Hid (T14 w ss.length ts.length ss ts (.int .i64 0) w) := Lib.hid ⟨0, Nat.zero_le _, rfl, Kept.refl _, Lib.hid (fun i hi => absurd hi (by omega))⟩
    clear h1 h2 hl
    go_enter Try.func14, Try.ntmps14
    go_wp2_with fail
    go_loopw [14] (fun t14 W => T14 w ss.length ts.length ss ts t14 W) (fun t14 _ => ss.length - (intOf t14).toNat)
    case atStart => exact HS0.out
    case round =>
      obtain ⟨k, hk, rfl, hK, HP⟩ := hrel
      have HK := Lib.hid hK
      obtain ⟨wo, rfl⟩ : ∃ wo : World, wo = wr := ⟨_, rfl⟩
      clear hK HS0
      by_cases hlt : k < ss.length
      · rcases H1.out with ⟨e1, _⟩ | ⟨_, b1, e1, _, hc1⟩
        · rw [e1, List.length_nil] at hlt; omega
        rcases H2.out with ⟨e2, _⟩ | ⟨_, b2, e2, _, hc2⟩
        · have := HL.out; rw [e2, List.length_nil] at this; omega
        injection e1 with e1 u1 u2
        injection e2 with e2 u3 u4
        clear u1 u2 u3 u4
        subst e1 e2
        obtain ⟨x0, x1, x2, x3, x4, x5, z1, x6⟩ := (hc1 k hlt).kept HK.out
        obtain ⟨y0, y1, y2, y3, y4, y5, z2, y6⟩ := (hc2 k (by have := HL.out; omega)).kept HK.out
        have HNE := Lib.hid (fun hne => lits_ne (ss := ss) (ts := ts) hlt (by have := HL.out; omega) hne)
        obtain ⟨s, hs⟩ : ∃ s, s = ss.getD k ByteArray.empty := ⟨_, rfl⟩
        obtain ⟨t, ht⟩ : ∃ t, t = ts.getD k ByteArray.empty := ⟨_, rfl⟩
        rw [← hs] at x1
        rw [← ht] at y1
        have HEQ : Hid (s.toList = t.toList → (ss.getD k ByteArray.empty).toList = (ts.getD k ByteArray.empty).toList) := Lib.hid (by rw [← hs, ← ht]; exact id)
        have HNE : Hid (¬ s.toList = t.toList → lits ss ≠ lits ts) := Lib.hid (by rw [hs, ht]; exact HNE.out)
        clear hs ht
        have k0 : (k : Int) < (ss.length : Int) := by omega
        clear hc1 hc2 hz1 hz2
        go_upto_region 6 with fail
        have hbx := Blk.new wo 49 [.pointer none, .string s, .int .i32 0, .int .u32 0, .int .u16 0, .int .u8 29, .int .u8 z1]
        have HBX : Hid (Blk (wo.alloc (.cells #[.pointer none, .string s, .int .i32 0, .int .u32 0, .int .u16 0, .int .u8 29, .int .u8 z1] 49)) wo.heap.size 49 [.pointer none, .string s, .int .i32 0, .int .u32 0, .int .u16 0, .int .u8 29, .int .u8 z1]) := Lib.hid hbx
        have KB := Lib.hid ((Kept.refl wo).alloc (.cells #[.pointer none, .string s, .int .i32 0, .int .u32 0, .int .u16 0, .int .u8 29, .int .u8 z1] 49))
        clear hbx x0 x1 x2 x3 x4 x5 x6
        generalize wo.alloc (.cells #[.pointer none, .string s, .int .i32 0, .int .u32 0, .int .u16 0, .int .u8 29, .int .u8 z1] 49) = wb at *
        generalize wo.heap.size = q at *
        have x0 : wb.cell? ⟨q, 0, none⟩ = some (.pointer none) := HBX.out.cell 0
        have x1 : wb.cell? ⟨q, 1, none⟩ = some (.string s) := HBX.out.cell 1
        have x2 : wb.cell? ⟨q, 2, none⟩ = some (.int .i32 0) := HBX.out.cell 2
        have x3 : wb.cell? ⟨q, 3, none⟩ = some (.int .u32 0) := HBX.out.cell 3
        have x4 : wb.cell? ⟨q, 4, none⟩ = some (.int .u16 0) := HBX.out.cell 4
        have x5 : wb.cell? ⟨q, 5, none⟩ = some (.int .u8 29) := HBX.out.cell 5
        have x6 : wb.cell? ⟨q, 6, none⟩ = some (.int .u8 z1) := HBX.out.cell 6
        replace y0 := KB.out.cell y0
        replace y1 := KB.out.cell y1
        replace y2 := KB.out.cell y2
        replace y3 := KB.out.cell y3
        replace y4 := KB.out.cell y4
        replace y5 := KB.out.cell y5
        replace y6 := KB.out.cell y6
        have TE := Lib.hid (fun W => tokEq s t z1 z2 W)
        go_cut [25] (fun t25 W => t25 = .bool (!sameS s t) ∧ Hid (Kept w W))
        case first =>
          have KB2 := Lib.hid (HK.out.trans KB.out)
          have TE2 := Lib.hid (fun (W : World) (kk : Kept wb W) => (TE.out W).mono (fun e w' (h : e = .returned (.bool (sameS s t)) ∧ Kept W w') => (show e = .returned (.bool (sameS s t)) ∧ Kept wb w' from ⟨h.1, kk.trans h.2⟩)))
          generalize sameS s t = b25 at *
          go_region_held3 (fun W => W.cell? ⟨q, 0, none⟩ = some (.pointer none) ∧ W.cell? ⟨q, 1, none⟩ = some (.string s) ∧ W.cell? ⟨q, 2, none⟩ = some (.int .i32 0) ∧ W.cell? ⟨q, 3, none⟩ = some (.int .u32 0) ∧ W.cell? ⟨q, 4, none⟩ = some (.int .u16 0) ∧ W.cell? ⟨q, 5, none⟩ = some (.int .u8 29) ∧ W.cell? ⟨q, 6, none⟩ = some (.int .u8 z1) ∧ W.cell? ⟨b2, k * 7, none⟩ = some (.pointer none) ∧ W.cell? ⟨b2, k * 7 + 1, none⟩ = some (.string t) ∧ W.cell? ⟨b2, k * 7 + 2, none⟩ = some (.int .i32 0) ∧ W.cell? ⟨b2, k * 7 + 3, none⟩ = some (.int .u32 0) ∧ W.cell? ⟨b2, k * 7 + 4, none⟩ = some (.int .u16 0) ∧ W.cell? ⟨b2, k * 7 + 5, none⟩ = some (.int .u8 29) ∧ W.cell? ⟨b2, k * 7 + 6, none⟩ = some (.int .u8 z2)) (first | exact ⟨hk5.cell x0, hk5.cell x1, hk5.cell x2, hk5.cell x3, hk5.cell x4, hk5.cell x5, hk5.cell x6, hk5.cell y0, hk5.cell y1, hk5.cell y2, hk5.cell y3, hk5.cell y4, hk5.cell y5, hk5.cell y6⟩ | go_keep)
            (first | (go_at_call 16; refine (TE2.out _ ?_).mono ?_; (repeat (first | exact Kept.refl _ | apply Kept.drew)); rintro e w5 ⟨rfl, hk5⟩))
          rename_i hheld
          clear hheld
          have HRR : Hid (Kept w w5) := Lib.hid (KB2.out.trans hk5)
          go_wp2_with fail
          go_meet
          exact ⟨rfl, HRR⟩
        case rest =>
          obtain ⟨rfl, hkc⟩ := hcut
          clear x0 x1 x2 x3 x4 x5 x6 y0 y1 y2 y3 y4 y5 y6
          by_cases hst : s.toList = t.toList
          · have hs : sameS s t = true := by unfold sameS; exact decide_eq_true hst
            rw [hs]
            have HP2 : Hid (∀ i, i < k + 1 → (ss.getD i ByteArray.empty).toList = (ts.getD i ByteArray.empty).toList) := Lib.hid (fun i hi => by
              by_cases e : i = k
              · subst e; have := HEQ.out; exact this hst
              · exact HP.out i (by omega))
            clear hs hst
            go_wp2_with fail
            go_roundw
            case rel => exact ⟨k + 1, by omega, by go_num, hkc.out, HP2⟩
            case measure => simp [intOf]; omega
          · have hs : sameS s t = false := by unfold sameS; exact decide_eq_false hst
            have HR : Hid (sameL ss ts = false) := Lib.hid (by unfold sameL; exact decide_eq_false (HNE.out hst))
            rw [hs]
            clear hs hst
            go_wp2_with fail
            go_ret
            exact ⟨by rw [HR.out]; rfl, hkc.out⟩
      · obtain rfl : k = ss.length := by omega
        have HR : Hid (sameL ss ts = true) := Lib.hid (by unfold sameL; exact decide_eq_true (lits_ext HL.out HP.out))
        go_wp2_with fail
        go_ret
        exact ⟨by rw [HR.out]; rfl, HK.out⟩
  · have HR : Hid (sameL ss ts = false) := Lib.hid (by unfold sameL; exact decide_eq_false (lits_len hl))
    have hl2 : ((ss.length : Int) != (ts.length : Int)) = true := by simp; omega
    clear h1 h2 hz1 hz2
    go_enter Try.func14, Try.ntmps14
    go_wp2_with fail
    go_ret
    exact ⟨by rw [HR.out]; rfl, Kept.refl _⟩
end Go.Proofs.Ytdnpdfiiajjcnaa.ic
