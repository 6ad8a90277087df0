/-
  The plain law of n011_69's symbol map (the chain from each symbol leads to the model's root), slices that came in, and the guards on sizes.
  Conditions: none.
-/
import Derived.Test.YtijbmfmcpcpcaaaDoorRSyms
import Derived.Test.YtijbmfmcpcpcaaaDoorRUnb
namespace Go.Proofs.YtijbmfmcpcpcaaaDoorR.plan69
open Go.ChangeShapes Go.WideShapes Go.ChangeAt Go.RowKit
open kit chain arena lk syms unb

theorem symAt_upTo (ks zs : List Int) (bs : List Bool) {n i : Nat} (h : i < n) : symAt (fun _ => upTo ks zs bs n n) (0, i) = mk ks zs bs i := by
  simp [symAt, upTo, h]
theorem lnk_upTo (ks zs : List Int) (bs : List Bool) {n i : Nat} (h : i < n) : lnk (fun _ => upTo ks zs bs n n) (0, i) = refOf (linkOf zs i) := by
  unfold lnk
  rw [symAt_upTo ks zs bs h]
  rfl
theorem chain_upTo (ks zs : List Int) (bs : List Bool) (n : Nat) : ∀ i, i < n → ∃ d, Chain 1 (fun _ => upTo ks zs bs n n) d (0, i) (0, rootOf zs i) := by
  intro i
  induction i using Nat.strongRecOn with
  | ind i ih =>
    intro h
    have hv : Valid 1 (fun _ => upTo ks zs bs n n) (0, i) := ⟨by omega, by rw [upTo_length]; exact h⟩
    rcases hl : linkOf zs i with _ | j
    · exact ⟨0, hv, by rw [lnk_upTo ks zs bs h, hl]; rfl, by rw [root_none hl]⟩
    · have hj := linkOf_lt hl
      obtain ⟨d, hd⟩ := ih j hj (by omega)
      refine ⟨d + 1, hv, ?_, ?_⟩
      · rw [lnk_upTo ks zs bs h, hl]
        intro e
        have := congrArg Prod.fst e
        simp [refOf, inv] at this
      · rw [lnk_upTo ks zs bs h, hl, root_some hl]
        exact hd

theorem Ints.nil (k : IntKind) (w : World) : Ints k w none 0 [] := ⟨rfl, fun h => absurd h (by omega)⟩
theorem addOff {b off : Nat} (i : Nat) : (⟨b, off, none⟩ : Addr).add i = ⟨b, off + i, none⟩ := by
  unfold Addr.add
  by_cases h : i = 0 <;> simp [h]
theorem Ints.of_cells {k : IntKind} {w : World} {x : Addr} {len cap : Nat} {zs : List Int} (hl : len ≤ cap) (hz : zs.length = cap)
    (hc : ∀ i, i < zs.length → w.cell? (x.add i) = some (.int k (zs.getD i 0))) : Ints k w (some x) len (zs.take len) := by
  refine ⟨by simp; omega, fun hn => ?_⟩
  obtain ⟨b, off, spot⟩ := x
  have h0 := hc 0 (by omega)
  have hspot : spot = none := by simpa [Addr.add] using World.cell?_spot h0
  subst hspot
  refine ⟨b, off, rfl, by simpa [Addr.add] using World.block_lt_of_cell? w _ h0, fun i hi => ?_⟩
  have hi3 : i < zs.length := by omega
  have h1 := hc i hi3
  rw [addOff] at h1
  rw [h1]
  simp [hi3, hi]
theorem Bools.of_cells {w : World} {x : Addr} {len cap : Nat} {zs : List Bool} (hl : len ≤ cap) (hz : zs.length = cap)
    (hc : ∀ i, i < zs.length → w.cell? (x.add i) = some (.bool (zs.getD i false))) : syms.Bools w (some x) len (zs.take len) := by
  refine ⟨by simp; omega, fun hn => ?_⟩
  obtain ⟨b, off, spot⟩ := x
  have h0 := hc 0 (by omega)
  have hspot : spot = none := by simpa [Addr.add] using World.cell?_spot h0
  subst hspot
  refine ⟨b, off, rfl, by simpa [Addr.add] using World.block_lt_of_cell? w _ h0, fun i hi => ?_⟩
  have hi3 : i < zs.length := by omega
  have h1 := hc i hi3
  rw [addOff] at h1
  rw [h1]
  simp [hi3, hi]
theorem wfi {n : Int} (h : (Lit.int .i32 n).wf = true) : -2147483648 ≤ n ∧ n ≤ 2147483647 := by
  simp only [Lit.wf, Bool.and_eq_true, decide_eq_true_eq] at h
  exact h
theorem wfu {n : Int} (h : (Lit.int .u8 n).wf = true) : 0 ≤ n ∧ n ≤ 255 := by
  simp only [Lit.wf, Bool.and_eq_true, decide_eq_true_eq] at h
  exact h
theorem wfw {n : Int} (h : (Lit.int .u32 n).wf = true) : 0 ≤ n ∧ n ≤ 4294967295 := by
  simp only [Lit.wf, Bool.and_eq_true, decide_eq_true_eq] at h
  exact h
theorem getD_mem {P : Int → Prop} {zs : List Int} (h : ∀ x ∈ zs, P x) (h1 : P (-1)) (j : Nat) : P (zs.getD j (-1)) := by
  by_cases hj : j < zs.length
  · have : zs.getD j (-1) = zs[j] := by simp [hj]
    rw [this]; exact h _ (List.getElem_mem hj)
  · have : zs.getD j (-1) = -1 := by simp [List.getElem?_eq_none (show zs.length ≤ j by omega)]
    rw [this]; exact h1
theorem getD_mem2 {P : Int → Prop} {zs : List Int} (h : ∀ x ∈ zs, P x) {j : Nat} (hj : j < zs.length) : P (zs.getD j (-1)) := by
  have : zs.getD j (-1) = zs[j] := by simp [hj]
  rw [this]; exact h _ (List.getElem_mem hj)

theorem bytes37_ok (a0 : Option Addr) (len0 cap0 : Nat) (a1 : Option Addr) (len1 cap1 : Nat) (a2 a3 : Int) (w : World) (h : len0 + len1 ≤ 1048576) :
    Calls Tryd.prog 37 #[.slice a0 len0 cap0, .slice a1 len1 cap1, .int .u32 a2, .int .u8 a3] w fun e w' => e = .returned (.bool true) ∧ w = w' := by
  go_enter Tryd.func37, Tryd.ntmps37
  go_wp2
  go_ret
  exact ⟨rfl, rfl⟩
theorem bytes37_no (a0 : Option Addr) (len0 cap0 : Nat) (a1 : Option Addr) (len1 cap1 : Nat) (a2 a3 : Int) (w : World) (h : ¬ len0 + len1 ≤ 1048576) (m0 : len0 ≤ 9223372036854775807) (m1 : len1 ≤ 9223372036854775807) :
    Calls Tryd.prog 37 #[.slice a0 len0 cap0, .slice a1 len1 cap1, .int .u32 a2, .int .u8 a3] w fun e w' => e = .returned (.bool false) ∧ w = w' := by
  by_cases h0 : 1048576 < len0
  · go_enter Tryd.func37, Tryd.ntmps37
    go_wp2
    go_ret
    exact ⟨rfl, rfl⟩
  by_cases h1 : 1048576 < len1
  · go_enter Tryd.func37, Tryd.ntmps37
    go_wp2
    go_ret
    exact ⟨rfl, rfl⟩
  · go_enter Tryd.func37, Tryd.ntmps37
    go_wp2
    go_ret
    exact ⟨rfl, rfl⟩
theorem bytes8_ok (a0 : Option Addr) (len0 cap0 : Nat) (a1 : Option Addr) (len1 cap1 : Nat) (a2 : Option Addr) (len2 cap2 : Nat) (a3 : Int) (w : World) (h : len0 + len1 + len2 ≤ 1048576) :
    Calls Tryd.prog 8 #[.slice a0 len0 cap0, .slice a1 len1 cap1, .slice a2 len2 cap2, .int .u32 a3] w fun e w' => e = .returned (.bool true) ∧ w = w' := by
  go_enter Tryd.func8, Tryd.ntmps8
  go_wp2
  go_ret
  exact ⟨rfl, rfl⟩
theorem bytes8_no (a0 : Option Addr) (len0 cap0 : Nat) (a1 : Option Addr) (len1 cap1 : Nat) (a2 : Option Addr) (len2 cap2 : Nat) (a3 : Int) (w : World) (h : ¬ len0 + len1 + len2 ≤ 1048576) (m0 : len0 ≤ 9223372036854775807) (m1 : len1 ≤ 9223372036854775807) (m2 : len2 ≤ 9223372036854775807) :
    Calls Tryd.prog 8 #[.slice a0 len0 cap0, .slice a1 len1 cap1, .slice a2 len2 cap2, .int .u32 a3] w fun e w' => e = .returned (.bool false) ∧ w = w' := by
  by_cases h0 : 1048576 < len0
  · go_enter Tryd.func8, Tryd.ntmps8
    go_wp2
    go_ret
    exact ⟨rfl, rfl⟩
  by_cases h1 : 1048576 < len1
  · go_enter Tryd.func8, Tryd.ntmps8
    go_wp2
    go_ret
    exact ⟨rfl, rfl⟩
  by_cases h01 : 1048576 < len0 + len1
  · go_enter Tryd.func8, Tryd.ntmps8
    go_wp2
    go_ret
    exact ⟨rfl, rfl⟩
  by_cases h2 : 1048576 < len2
  · go_enter Tryd.func8, Tryd.ntmps8
    go_wp2
    go_ret
    exact ⟨rfl, rfl⟩
  · go_enter Tryd.func8, Tryd.ntmps8
    go_wp2
    go_ret
    exact ⟨rfl, rfl⟩
end Go.Proofs.YtijbmfmcpcpcaaaDoorR.plan69
