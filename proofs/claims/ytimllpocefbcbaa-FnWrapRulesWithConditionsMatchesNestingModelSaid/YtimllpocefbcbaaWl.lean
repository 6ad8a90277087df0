/-
  wrClone over this seat's program: the conditions come back with the same content.
  Conditions: the conditions are readable and within the law's bounds.
-/
import Derived.Test.YtimllpocefbcbaaWk
import Derived.Test.YtimllpocefbcbaaWork1
namespace Go.Proofs.Ytimllpocefbcbaa.wr
open Go.ChangeShapes Go.WideShapes Go.ChangeAt Go.RowKit
open kit

/-- the cells of a condition in the copy; its layers lie above lo -/
def CnR (lo : Nat) (W : World) (cs : List Value) (o : Nat) (c : Cnd) : Prop :=
  ∃ a1 c1, cs[o]? = some (.slice a1 c.L.length c1) ∧ cs[o + 1]? = some (.int .i64 c.s) ∧ Row W a1 c.L.length c1 (c.L.map Value.bool) ∧ ∀ b, a1.map (·.block) = some b → lo ≤ b
structure Lq (w W : World) (F : Cs) (k : Nat) : Prop where
  kept : Kept w W
  row : ∃ cs, Blk W w.heap.size 28 cs ∧ cs.length = F.length * 2 ∧ (∀ i, i < k → CnR (w.heap.size + 1) W cs (i * 2) (at_ F i)) ∧ ∀ i, k ≤ i → i < F.length → cs[i * 2]? = some (.slice none 0 0)
section
variable {w W W2 : World} {F : Cs} {k : Nat}
theorem CnR.same {lo : Nat} {cs cs2 : List Value} {o : Nat} {c : Cnd} (h : CnR lo W cs o c) (hs : W.heap.size ≤ W2.heap.size) (hb : ∀ b, lo ≤ b → b < W.heap.size → W2.heap[b]? = W.heap[b]?) (he : ∀ j, j < 2 → cs2[o + j]? = cs[o + j]?) : CnR lo W2 cs2 o c := by
  obtain ⟨a1, c1, h1, h2, r1, h3⟩ := h
  exact ⟨a1, c1, (he 0 (by omega)).trans h1, (he 1 (by omega)).trans h2, r1.far hs (fun b hb2 e => hb b (h3 b e) hb2), h3⟩
theorem Lq.kept2 (h : Lq w W F k) (kk : Kept W W2) : Lq w W2 F k := by
  obtain ⟨cs, hb, hl, hc, hz⟩ := h.row
  exact ⟨h.kept.trans kk, cs, hb.kept kk, hl, fun i hi => (hc i hi).same kk.size (fun b _ hb => kk.block b hb) (fun _ _ => rfl), hz⟩
theorem Lq.has (h : Lq w W F k) {i o : Nat} (hi : i < F.length) (ho : o < 2) : ∃ v, W.cell? ⟨w.heap.size, i * 2 + o, none⟩ = some v ∧ W.frozen? ⟨w.heap.size, i * 2 + o, none⟩ = false := by
  obtain ⟨cs, hb, hl, _⟩ := h.row
  exact hb.has (by rw [hl]; have := Nat.mul_le_mul_right 2 (show i + 1 ≤ F.length by omega); omega)
theorem Lq.lt (h : Lq w W F k) : w.heap.size < W.heap.size := by obtain ⟨cs, hb, _⟩ := h.row; exact hb.lt
/-- the count is stored -/
theorem Lq.putS (h : Lq w W F k) (u : Value) : Lq w (W.setCell ⟨w.heap.size, k * 2 + 1, none⟩ u) F k := by
  obtain ⟨cs, hb, hl, hc, hz⟩ := h.row
  refine ⟨h.kept.setCell (Nat.le_refl _) _, _, hb.set (k * 2 + 1) u, by simpa using hl, fun i hi => ?_, fun i h1 h2 => ?_⟩
  · exact (hc i hi).same (by simp [World.setCell]) (fun b h1 _ => Below.heap_setCell _ _ _ _ (by show b ≠ w.heap.size; omega)) fun j hj => by rw [List.getElem?_set_ne (by omega)]
  · rw [List.getElem?_set_ne (by omega)]; exact hz i h1 h2
theorem Lq.cellS (h : Lq w W F k) (hk : k < F.length) (u : Value) : (W.setCell ⟨w.heap.size, k * 2 + 1, none⟩ u).cell? ⟨w.heap.size, k * 2 + 1, none⟩ = some u := by
  obtain ⟨cs, hb, hl, _⟩ := h.row
  rw [(hb.set _ u).cell, List.getElem?_set_self (by rw [hl]; have := Nat.mul_le_mul_right 2 (show k + 1 ≤ F.length by omega); omega)]
/-- no layers: the zero cell stands -/
theorem Lq.closeN (h : Lq w W F k) (hk : k < F.length) (hs : W.cell? ⟨w.heap.size, k * 2 + 1, none⟩ = some (.int .i64 (at_ F k).s)) (hL : (at_ F k).L = []) : Lq w W F (k + 1) := by
  obtain ⟨cs, hb, hl, hc, hz⟩ := h.row
  refine ⟨h.kept, cs, hb, hl, fun i hi => ?_, fun i h1 h2 => hz i (by omega) h2⟩
  by_cases e : i = k
  · subst e
    rw [hb.cell] at hs
    exact ⟨none, 0, by rw [hL]; exact hz i (Nat.le_refl _) hk, hs, by rw [hL]; exact Row.nil _, fun b e => by cases e⟩
  · exact hc i (by omega)
/-- the layers' copy is stored -/
theorem Lq.close (h : Lq w W F k) (hk : k < F.length) (hs : W.cell? ⟨w.heap.size, k * 2 + 1, none⟩ = some (.int .i64 (at_ F k).s)) {a : Option Addr} {c : Nat} (hr : Row W a (at_ F k).L.length c ((at_ F k).L.map Value.bool)) (hlo : ∀ b, a.map (·.block) = some b → w.heap.size + 1 ≤ b) :
    Lq w (W.setCell ⟨w.heap.size, k * 2, none⟩ (.slice a (at_ F k).L.length c)) F (k + 1) := by
  obtain ⟨cs, hb, hl, hc, hz⟩ := h.row
  have hlim : k * 2 + 2 ≤ F.length * 2 := by have := Nat.mul_le_mul_right 2 (show k + 1 ≤ F.length by omega); omega
  have far : ∀ b, w.heap.size + 1 ≤ b → b < W.heap.size → (W.setCell ⟨w.heap.size, k * 2, none⟩ (.slice a (at_ F k).L.length c)).heap[b]? = W.heap[b]? := fun b h1 _ => Below.heap_setCell _ _ _ _ (by show b ≠ w.heap.size; omega)
  refine ⟨h.kept.setCell (Nat.le_refl _) _, _, hb.set (k * 2) _, by simpa using hl, fun i hi => ?_, fun i h1 h2 => ?_⟩
  · by_cases e : i = k
    · subst e
      rw [hb.cell] at hs
      refine ⟨a, c, by rw [List.getElem?_set_self (by omega)], by rw [List.getElem?_set_ne (by omega)]; exact hs, hr.far (by simp [World.setCell]) (fun b hb2 e => far b (hlo b e) hb2), hlo⟩
    · exact (hc i (by omega)).same (by simp [World.setCell]) far fun j hj => by rw [List.getElem?_set_ne (by omega)]
  · rw [List.getElem?_set_ne (by omega)]; exact hz i (by omega) h2
theorem Lq.fin (h : Lq w W F F.length) (hm : F.length ≤ 4096) : CndsC W (.slice (some ⟨w.heap.size, 0, none⟩) F.length F.length) F := by
  obtain ⟨cs, hb, hl, hc, _⟩ := h.row
  refine ⟨_, _, rfl, Nat.le_refl _, by unfold maxLen; omega, (fun e => by cases e), fun _ => ⟨_, 0, rfl, hb.lt, fun i hi => ?_⟩⟩
  obtain ⟨a1, c1, h1, h2, r1, _⟩ := hc i hi
  rw [Nat.zero_add]
  exact ⟨a1, c1, by rw [hb.cell]; exact h1, by rw [hb.cell]; exact h2, r1⟩
end
def Cloned (w : World) (F : Cs) (e : Ending) (w' : World) : Prop := (∃ a c, e = .returned (.slice a F.length c) ∧ CndsC w' (.slice a F.length c) F) ∧ Kept w w'
def T6 (w : World) (F : Cs) (t4 : Value) (W : World) : Prop := ∃ k : Nat, k ≤ F.length ∧ t4 = .int .i64 (k : Int) ∧ Lq w W F k
/-- the copy of one list of layers, j of them laid -/
def T6i (w3 : World) (L : List Bool) (t6 : Value) (W : World) : Prop := ∃ j : Nat, j ≤ L.length ∧ t6 = .int .i64 (j : Int) ∧ Bools W w3.heap.size L.length (fun i => decide (i < j) && L.getD i false) ∧ Kept w3 W
set_option maxRecDepth 100000 in
set_option maxHeartbeats 8000000 in
theorem clone (w : World) (a : Option Addr) (c : Nat) (F : Cs) (h : CndsC w (.slice a F.length c) F) (hn : F.length ≤ 4096) (hfit : Fit F F.length) : Calls Try.prog 6 #[.slice a F.length c] w (Cloned w F) := by
  have heq := fun w : World => Go.run_eql_slice_nil (P := Try.prog) w 22 28 a F.length c Try.underlying22
  obtain ⟨a', c', e, hc1, hc2, hz⟩ := Sl.len h
  injection e with e1 e2 e3
  subst e1 e3
  clear e2
  have HR := Lib.hid h
  have HFT := Lib.hid hfit
  clear h hfit
  cases a with
  | none =>
    have h0 := hz rfl
    simp only [Option.isNone] at heq
    have HX : Hid (CndsC w (.slice none F.length 0) F) := Lib.hid (by
      obtain ⟨a2, c2, e, _, _, h4, _⟩ := HR.out
      injection e with e1 _ e3
      have : c2 = 0 := h4 e1.symm
      rw [show (0 : Nat) = c by omega]
      exact HR.out)
    have hF0 : F = [] := List.eq_nil_of_length_eq_zero h0
    subst hF0
    clear HR h0 hz hc1 hc2 HFT
    simp only [List.length_nil] at heq HX ⊢
    go_enter Try.func6, Try.ntmps6
    go_wp2_with fail
    go_ret
    exact ⟨⟨_, _, rfl, HX.out⟩, Kept.refl _⟩
  | some ad =>
    simp only [Option.isNone] at heq
    obtain ⟨C, l1, _, g1, m1⟩ := makeN1 (T := 22) (E := 28) (size := 2) (bytes := 32) Try.underlying22 (by kernel_rfl) (by kernel_rfl) F.length (by omega) (by omega)
    have HA0 : Hid (T6 w F (.int .i64 0) (w.alloc (.cells C.toArray 28))) := Lib.hid ⟨0, Nat.zero_le _, rfl, (Kept.refl _).alloc _, C, Blk.new _ _ _, l1, (fun i hi => absurd hi (by omega)), fun i _ h2 => g1 0 _ (by omega) (by kernel_rfl) i h2⟩
    clear g1 l1 hz
    go_enter Try.func6, Try.ntmps6
    go_wp2_with fail
    clear m1 heq
    generalize w.alloc (.cells C.toArray 28) = wa at *
    go_loopw [4] (fun t4 W => T6 w F t4 W) (fun t4 _ => F.length - (intOf t4).toNat)
    case atStart => exact HA0.out
    case round =>
      obtain ⟨k, hk, rfl, hT⟩ := hrel
      have HT := Lib.hid hT
      obtain ⟨wo, rfl⟩ : ∃ wo : World, wo = wr := ⟨_, rfl⟩
      clear hT HA0
      by_cases hlt : k < F.length
      · obtain ⟨b, off, ea, _, a1, c1, y0, y1, r1⟩ := HR.out.at_ hlt
        cases ea
        obtain ⟨f1, _, _⟩ := HFT.out k hlt
        have k0 : (k : Int) < (F.length : Int) := by omega
        have heq2 := fun w : World => Go.run_neq_slice_nil (P := Try.prog) w 26 4 a1 (at_ F k).L.length c1 Try.underlying26
        have R1 := Lib.hid r1
        have Y0 := Lib.hid y0
        have y0 := HT.out.kept.cell y0
        have y1 := HT.out.kept.cell y1
        obtain ⟨vv, q1, q2⟩ := HT.out.has hlt (o := 1) (by omega)
        have HU : Hid (Lq w (wo.setCell ⟨w.heap.size, k * 2 + 1, none⟩ (.int .i64 (at_ F k).s)) F k) := Lib.hid (HT.out.putS _)
        have HCS : Hid ((wo.setCell ⟨w.heap.size, k * 2 + 1, none⟩ (.int .i64 (at_ F k).s)).cell? ⟨w.heap.size, k * 2 + 1, none⟩ = some (.int .i64 (at_ F k).s)) := Lib.hid (HT.out.cellS hlt _)
        go_upto_region 8 with fail
        clear y0 y1 q1 q2 r1
        generalize wo.setCell ⟨w.heap.size, k * 2 + 1, none⟩ (.int .i64 (at_ F k).s) = u1 at *
        have y0 := HU.out.kept.cell Y0.out
        cases a1 with
        | none =>
          simp only [Option.isNone, Bool.not_true] at heq2
          have HLN : Hid ((at_ F k).L = []) := Lib.hid (by
            obtain ⟨r1, r2, r3, r4, _⟩ := R1.out
            have := r4 rfl
            exact List.eq_nil_of_length_eq_zero (by omega))
          have HN := Lib.hid (HU.out.closeN hlt HCS.out HLN.out)
          go_wp2_with fail
          go_roundw
          case rel => exact ⟨k + 1, by omega, by go_num, HN.out⟩
          case measure => simp [intOf]; omega
        | some ad1 =>
          simp only [Option.isNone, Bool.not_false] at heq2
          obtain ⟨C2, l2, _, g2, m2⟩ := makeN1 (T := 26) (E := 4) (size := 1) (bytes := 1) Try.underlying26 (by kernel_rfl) (by kernel_rfl) (at_ F k).L.length (by omega) (by omega)
          have hb2 : Bools (u1.alloc (.cells C2.toArray 4)) u1.heap.size (at_ F k).L.length (fun _ => false) := Bools.made u1 (by rw [l2, Nat.mul_one]) (fun i hi => by have := g2 0 (.bool false) (by omega) (by kernel_rfl) i hi; rwa [Nat.mul_one, Nat.add_zero] at this)
          have HA2 : Hid (T6i u1 (at_ F k).L (.int .i64 0) (u1.alloc (.cells C2.toArray 4))) := Lib.hid ⟨0, Nat.zero_le _, rfl, hb2.congr (fun x _ => by simp), (Kept.refl u1).alloc _⟩
          clear hb2 g2 l2
          go_upto_region 11 with fail
          clear m2 heq2
          generalize u1.alloc (.cells C2.toArray 4) = u2 at *
          go_loopw [6] (fun t6 W => T6i u1 (at_ F k).L t6 W) (fun t6 _ => (at_ F k).L.length - (intOf t6).toNat)
          case atStart => exact HA2.out
          case round =>
            obtain ⟨j, hj, rfl, hB, hK⟩ := hrel
            have HB := Lib.hid hB
            have HK := Lib.hid hK
            obtain ⟨u3, rfl⟩ : ∃ u3 : World, u3 = wr := ⟨_, rfl⟩
            clear hB hK HA2 y0
            have y0 := HK.out.cell (HU.out.kept.cell Y0.out)
            by_cases hlj : j < (at_ F k).L.length
            · obtain ⟨b3, off3, e3, _, x0⟩ := ((R1.out.kept HU.out.kept).kept HK.out).at_ false hlj
              cases e3
              have j0 : (j : Int) < ((at_ F k).L.length : Int) := by omega
              have z0 := HB.out.cell hlj
              have z0f := HB.out.free j
              have hcp := R1.out.2.1
              have hcp2 : c1 ≤ 9223372036854775807 := by have := R1.out.2.2.1; unfold maxLen at this; exact this
              have HB2 : Hid (Bools (u3.setCell ⟨u1.heap.size, j, none⟩ (.bool ((at_ F k).L.getD j false))) u1.heap.size (at_ F k).L.length (fun i => decide (i < j + 1) && (at_ F k).L.getD i false)) := Lib.hid ((HB.out.set hlj ((at_ F k).L.getD j false)).congr (fun x hx => by
                by_cases e : x = j
                · subst e; simp
                · have : (x < j + 1) = (x < j) := by apply propext; omega
                  simp [e, this]))
              have HK2 := Lib.hid (HK.out.setCell (p := ⟨u1.heap.size, j, none⟩) (Nat.le_refl _) (.bool ((at_ F k).L.getD j false)))
              generalize (at_ F k).L.getD j false = bb at *
              go_wp2_with fail
              go_roundw
              case rel => exact ⟨j + 1, by omega, by go_num, HB2.out, HK2.out⟩
              case measure => simp [intOf]; omega
            · obtain rfl : j = (at_ F k).L.length := by omega
              have HU3 := Lib.hid (HU.out.kept2 HK.out)
              have HR3 : Hid (Row u3 (some ⟨u1.heap.size, 0, none⟩) (at_ F k).L.length (at_ F k).L.length ((at_ F k).L.map Value.bool)) := Lib.hid ⟨by simp, Nat.le_refl _, by unfold maxLen; omega, (fun e => by cases e), fun _ => ⟨_, 0, rfl, HB.out.lt, fun i hi => by
                have hi2 : i < (at_ F k).L.length := by simpa using hi
                rw [Nat.zero_add, HB.out.cell hi2]
                simp [hi2]⟩⟩
              have HN := Lib.hid (HU3.out.close hlt (HK.out.cell HCS.out) HR3.out (fun b e => by
                have hh : u1.heap.size = b := by simpa using e
                have := HU.out.lt
                omega))
              obtain ⟨vv2, q3, q4⟩ := HU3.out.has hlt (o := 0) (by omega)
              rw [Nat.add_zero] at q3 q4
              clear HB HK y0
              go_wp2_with fail
              go_roundw
              case rel => exact ⟨k + 1, by omega, by go_num, HN.out⟩
              case measure => simp [intOf]; omega
      · obtain rfl : k = F.length := by omega
        have HX := Lib.hid (HT.out.fin hn)
        go_wp2_with fail
        go_ret
        exact ⟨⟨_, _, rfl, HX.out⟩, HT.out.kept⟩
end Go.Proofs.Ytimllpocefbcbaa.wr
