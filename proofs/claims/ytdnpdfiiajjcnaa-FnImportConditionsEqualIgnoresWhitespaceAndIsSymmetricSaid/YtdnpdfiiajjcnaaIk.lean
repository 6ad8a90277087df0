/-
  icTokens over this seat's program: a token list with the given texts.
  Conditions: the lists are readable and at most 2^20 long.
-/
import Derived.Test.YtdnpdfiiajjcnaaIe
import Derived.Deep.MidRow
import Derived.Laws.BitsAllLaws
namespace Go.Proofs.Ytdnpdfiiajjcnaa.ic
open Go.ChangeShapes Go.WideShapes Go.ChangeAt Go.RowKit
open kit

def TkC (cs : List Value) (o : Nat) (s : ByteArray) : Prop := ∃ z : Int, cs[o]? = some (.pointer none) ∧ cs[o + 1]? = some (.string s) ∧ cs[o + 2]? = some (.int .i32 0) ∧ cs[o + 3]? = some (.int .u32 0) ∧ cs[o + 4]? = some (.int .u16 0) ∧ cs[o + 5]? = some (.int .u8 29) ∧ cs[o + 6]? = some (.int .u8 z)
theorem TkC.cells {cs cs2 : List Value} {o : Nat} {s : ByteArray} (h : TkC cs o s) (he : ∀ j, j < 7 → cs2[o + j]? = cs[o + j]?) : TkC cs2 o s := by
  obtain ⟨z, h0, h1, h2, h3, h4, h5, h6⟩ := h
  exact ⟨z, (he 0 (by omega)).trans h0, (he 1 (by omega)).trans h1, (he 2 (by omega)).trans h2, (he 3 (by omega)).trans h3, (he 4 (by omega)).trans h4, (he 5 (by omega)).trans h5, (he 6 (by omega)).trans h6⟩
structure Tq (w W : World) (n k : Nat) (ss : List ByteArray) : Prop where
  kept : Kept w W
  row : ∃ cs, Blk W w.heap.size 49 cs ∧ cs.length = n * 7 ∧ ∀ i, i < k → TkC cs (i * 7) (ss.getD i ByteArray.empty)
section
variable {w W W2 : World} {n k : Nat} {ss : List ByteArray}
theorem Tq.kept2 (h : Tq w W n k ss) (kk : Kept W W2) : Tq w W2 n k ss := by
  obtain ⟨cs, hb, r⟩ := h.row
  exact ⟨h.kept.trans kk, cs, hb.kept kk, r⟩
def tok (s : ByteArray) (z : Int) : List Value := [.pointer none, .string s, .int .i32 0, .int .u32 0, .int .u16 0, .int .u8 29, .int .u8 z]
theorem Tq.lim (hk : k < n) : k * 7 + 7 ≤ n * 7 := by have := Nat.mul_le_mul_right 7 (show k + 1 ≤ n by omega); omega
theorem Tq.there (h : Tq w W n k ss) (hk : k < n) : W.there w.heap.size (k * 7) 7 := by
  obtain ⟨cs, hb, hl, _⟩ := h.row
  exact hb.there (by rw [hl]; exact Tq.lim hk)
theorem Tq.step (h : Tq w W n k ss) (hk : k < n) (z : Int) : Tq w (W.setCells w.heap.size (k * 7) (tok (ss.getD k ByteArray.empty) z)) n (k + 1) ss := by
  obtain ⟨cs, hb, hl, hc⟩ := h.row
  obtain ⟨cs2, h2, l2, a2, b2⟩ := Blk.setCells (tok (ss.getD k ByteArray.empty) z) (k * 7) W cs hb (by rw [hl]; exact Tq.lim hk)
  refine ⟨Kept.setCells _ _ _ h.kept (Nat.le_refl _), cs2, h2, l2.trans hl, fun i hi => ?_⟩
  by_cases e : i = k
  · subst e
    exact ⟨z, b2 0 (by simp [tok]), b2 1 (by simp [tok]), b2 2 (by simp [tok]), b2 3 (by simp [tok]), b2 4 (by simp [tok]), b2 5 (by simp [tok]), b2 6 (by simp [tok])⟩
  · exact (hc i (by omega)).cells fun j hj => a2 _ (by omega)
theorem Tq.fin (h : Tq w W n n ss) (hn : ss.length = n) (h0 : 0 < n) : Tk W (.slice (some ⟨w.heap.size, 0, none⟩) n n) ss := by
  subst hn
  obtain ⟨cs, hb, hl, hc⟩ := h.row
  refine .inr ⟨h0, _, rfl, ⟨cs, hb⟩, fun i hi => ?_⟩
  obtain ⟨z, q0, q1, q2, q3, q4, q5, q6⟩ := hc i hi
  exact ⟨by rw [hb.cell]; exact q0, by rw [hb.cell]; exact q1, by rw [hb.cell]; exact q2, by rw [hb.cell]; exact q3, by rw [hb.cell]; exact q4, by rw [hb.cell]; exact q5, z, by rw [hb.cell]; exact q6⟩
end
def MadeTk (w : World) (ss : List ByteArray) (e : Ending) (w' : World) : Prop := (∃ v, e = .returned v ∧ Tk w' v ss) ∧ Kept w w'
def T12 (w : World) (n : Nat) (ss : List ByteArray) (t8 : Value) (W : World) : Prop := ∃ k : Nat, k ≤ n ∧ t8 = .int .i64 (k : Int) ∧ Tq w W n k ss
theorem sizeT49 : (Try.prog.info? 49).map (·.size) = some 7 := by kernel_rfl
set_option maxRecDepth 100000 in
set_option maxHeartbeats 8000000 in
theorem tokens (w : World) (u : Bool) (a : Option Addr) (n c : Nat) (ss : List ByteArray) (a2 : Option Addr) (m c2 : Nat) (ws : List Int) (h : Row w a n c (ss.map Value.string)) (h2 : Row w a2 m c2 (ws.map (Value.int .u8))) (hn : n ≤ 1048576) (hm : m ≤ 1048576) :
    Calls Try.prog 12 #[.slice a n c, .slice a2 m c2, .bool u] w (MadeTk w ss) := by
  have hlen : ss.length = n := by simpa using h.1
  by_cases h0 : n = 0
  · subst h0
    obtain rfl : ss = [] := List.eq_nil_of_length_eq_zero hlen
    clear h h2 hlen
    go_enter Try.func12, Try.ntmps12
    go_wp2_with fail
    go_ret
    exact ⟨⟨_, rfl, .inl ⟨rfl, rfl⟩⟩, Kept.refl _⟩
  · obtain ⟨C, l1, _, g1, m1⟩ := makeN1 (T := 37) (E := 49) (size := 7) (bytes := 40) Try.underlying37 (by kernel_rfl) (by kernel_rfl) n (by omega) (by omega)
    have HA0 : Hid (T12 w n ss (.int .i64 0) (w.alloc (.cells C.toArray 49))) := Lib.hid ⟨0, Nat.zero_le _, rfl, (Kept.refl _).alloc _, C, Blk.new _ _ _, l1, fun i hi => absurd hi (by omega)⟩
    have h0b : ((n : Int) == 0) = false := by simp; omega
    have HR := Lib.hid h
    have HR2 := Lib.hid h2
    have HLN := Lib.hid hlen
    clear g1 l1 h h2 hlen
    go_enter Try.func12, Try.ntmps12
    go_wp2_with fail
    clear m1
    generalize w.alloc (.cells C.toArray 49) = wa at *
    go_loopw [8] (fun t8 W => T12 w n ss t8 W) (fun t8 _ => n - (intOf t8).toNat)
    case atStart => exact HA0.out
    case round =>
      obtain ⟨k, hk, rfl, hT⟩ := hrel
      have HT := Lib.hid hT
      obtain ⟨wo, rfl⟩ : ∃ wo : World, wo = wr := ⟨_, rfl⟩
      clear hT HA0
      by_cases hlt : k < n
      · obtain ⟨b, off, ea, _, x0⟩ := (HR.out.kept HT.out.kept).at_ ByteArray.empty hlt
        subst ea
        have k0 : (k : Int) < (n : Int) := by omega
        have hcap := HR.out.2.1
        have hcap2 : c ≤ 9223372036854775807 := by have := HR.out.2.2.1; unfold maxLen at this; exact this
        obtain ⟨s, hs⟩ : ∃ s, s = ss.getD k ByteArray.empty := ⟨_, rfl⟩
        rw [← hs] at x0
        have HSS := Lib.hid hs
        clear hs
        cases u
        · go_upto_region 12 with fail
          have KA := Lib.hid ((Kept.refl wo).alloc (.cells #[.pointer none, .string s, .int .i32 0, .int .u32 0, .int .u16 0, .int .u8 29, .int .u8 (0)] 49))
          have HBX : Hid (Blk (wo.alloc (.cells #[.pointer none, .string s, .int .i32 0, .int .u32 0, .int .u16 0, .int .u8 29, .int .u8 (0)] 49)) wo.heap.size 49 (tok s (0))) := Lib.hid (Blk.new wo 49 (tok s (0)))
          clear x0
          generalize wo.alloc (.cells #[.pointer none, .string s, .int .i32 0, .int .u32 0, .int .u16 0, .int .u8 29, .int .u8 (0)] 49) = w3 at *
          generalize wo.heap.size = q at *
          have HT3 := Lib.hid (HT.out.kept2 KA.out)
          have hth := HT3.out.there hlt
          have HN : Hid (Tq w (w3.setCells w.heap.size (k * 7) (tok s (0))) n (k + 1) ss) := Lib.hid (by have := HT3.out.step hlt (0); rw [← HSS.out] at this; exact this)
          have z0 : w3.cell? ⟨q, 0, none⟩ = some (.pointer none) := HBX.out.cell 0
          have z1 : w3.cell? ⟨q, 1, none⟩ = some (.string s) := HBX.out.cell 1
          have z2 : w3.cell? ⟨q, 2, none⟩ = some (.int .i32 0) := HBX.out.cell 2
          have z3 : w3.cell? ⟨q, 3, none⟩ = some (.int .u32 0) := HBX.out.cell 3
          have z4 : w3.cell? ⟨q, 4, none⟩ = some (.int .u16 0) := HBX.out.cell 4
          have z5 : w3.cell? ⟨q, 5, none⟩ = some (.int .u8 29) := HBX.out.cell 5
          have z6 : w3.cell? ⟨q, 6, none⟩ = some (.int .u8 (0)) := HBX.out.cell 6
          have HTH : Hid (w3.there w.heap.size (k * 7) (#[.pointer none, .string s, .int .i32 0, .int .u32 0, .int .u16 0, .int .u8 29, .int .u8 (0)] : Array Value).size) := Lib.hid hth
          clear hth
          have HSZ : Hid ((Try.prog.info? 49).map (·.size) = some (#[.pointer none, .string s, .int .i32 0, .int .u32 0, .int .u16 0, .int .u8 29, .int .u8 (0)] : Array Value).size) := Lib.hid sizeT49
          have HON : Hid ((#[.pointer none, .string s, .int .i32 0, .int .u32 0, .int .u16 0, .int .u8 29, .int .u8 (0)] : Array Value).all (·.oneCell') = true) := Lib.hid (by simp [Value.oneCell'])
          go_wp2_with (with_reducible refine wpList_store_mid rfl 49 (.tmp 44) (.tmp 43) rfl w.heap.size (k * 7) #[.pointer none, .string s, .int .i32 0, .int .u32 0, .int .u16 0, .int .u8 29, .int .u8 (0)] rfl rfl HTH.out HSZ.out HON.out ?_)
          go_roundw
          case rel => exact ⟨k + 1, by omega, by go_num, HN.out⟩
          case measure => simp [intOf]; omega
        · by_cases hlt2 : k < m
          · obtain ⟨b2, off2, ea2, _, y0⟩ := (HR2.out.kept HT.out.kept).at_ 0 hlt2
            subst ea2
            have k1 : (k : Int) < (m : Int) := by omega
            generalize ws.getD k 0 = x at *
            go_upto_region 12 with fail
            have KA := Lib.hid ((Kept.refl wo).alloc (.cells #[.pointer none, .string s, .int .i32 0, .int .u32 0, .int .u16 0, .int .u8 29, .int .u8 (bits .and .u8 x 3)] 49))
            have HBX : Hid (Blk (wo.alloc (.cells #[.pointer none, .string s, .int .i32 0, .int .u32 0, .int .u16 0, .int .u8 29, .int .u8 (bits .and .u8 x 3)] 49)) wo.heap.size 49 (tok s (bits .and .u8 x 3))) := Lib.hid (Blk.new wo 49 (tok s (bits .and .u8 x 3)))
            clear x0 y0
            generalize wo.alloc (.cells #[.pointer none, .string s, .int .i32 0, .int .u32 0, .int .u16 0, .int .u8 29, .int .u8 (bits .and .u8 x 3)] 49) = w3 at *
            generalize wo.heap.size = q at *
            have HT3 := Lib.hid (HT.out.kept2 KA.out)
            have hth := HT3.out.there hlt
            have HN : Hid (Tq w (w3.setCells w.heap.size (k * 7) (tok s (bits .and .u8 x 3))) n (k + 1) ss) := Lib.hid (by have := HT3.out.step hlt (bits .and .u8 x 3); rw [← HSS.out] at this; exact this)
            have z0 : w3.cell? ⟨q, 0, none⟩ = some (.pointer none) := HBX.out.cell 0
            have z1 : w3.cell? ⟨q, 1, none⟩ = some (.string s) := HBX.out.cell 1
            have z2 : w3.cell? ⟨q, 2, none⟩ = some (.int .i32 0) := HBX.out.cell 2
            have z3 : w3.cell? ⟨q, 3, none⟩ = some (.int .u32 0) := HBX.out.cell 3
            have z4 : w3.cell? ⟨q, 4, none⟩ = some (.int .u16 0) := HBX.out.cell 4
            have z5 : w3.cell? ⟨q, 5, none⟩ = some (.int .u8 29) := HBX.out.cell 5
            have z6 : w3.cell? ⟨q, 6, none⟩ = some (.int .u8 (bits .and .u8 x 3)) := HBX.out.cell 6
            have HTH : Hid (w3.there w.heap.size (k * 7) (#[.pointer none, .string s, .int .i32 0, .int .u32 0, .int .u16 0, .int .u8 29, .int .u8 (bits .and .u8 x 3)] : Array Value).size) := Lib.hid hth
            clear hth
            have HSZ : Hid ((Try.prog.info? 49).map (·.size) = some (#[.pointer none, .string s, .int .i32 0, .int .u32 0, .int .u16 0, .int .u8 29, .int .u8 (bits .and .u8 x 3)] : Array Value).size) := Lib.hid sizeT49
            have HON : Hid ((#[.pointer none, .string s, .int .i32 0, .int .u32 0, .int .u16 0, .int .u8 29, .int .u8 (bits .and .u8 x 3)] : Array Value).all (·.oneCell') = true) := Lib.hid (by simp [Value.oneCell'])
            go_wp2_with (with_reducible refine wpList_store_mid rfl 49 (.tmp 44) (.tmp 43) rfl w.heap.size (k * 7) #[.pointer none, .string s, .int .i32 0, .int .u32 0, .int .u16 0, .int .u8 29, .int .u8 (bits .and .u8 x 3)] rfl rfl HTH.out HSZ.out HON.out ?_)
            go_roundw
            case rel => exact ⟨k + 1, by omega, by go_num, HN.out⟩
            case measure => simp [intOf]; omega
          · have k1 : ¬ (k : Int) < (m : Int) := by omega
            go_upto_region 12 with fail
            have KA := Lib.hid ((Kept.refl wo).alloc (.cells #[.pointer none, .string s, .int .i32 0, .int .u32 0, .int .u16 0, .int .u8 29, .int .u8 (0)] 49))
            have HBX : Hid (Blk (wo.alloc (.cells #[.pointer none, .string s, .int .i32 0, .int .u32 0, .int .u16 0, .int .u8 29, .int .u8 (0)] 49)) wo.heap.size 49 (tok s (0))) := Lib.hid (Blk.new wo 49 (tok s (0)))
            clear x0
            generalize wo.alloc (.cells #[.pointer none, .string s, .int .i32 0, .int .u32 0, .int .u16 0, .int .u8 29, .int .u8 (0)] 49) = w3 at *
            generalize wo.heap.size = q at *
            have HT3 := Lib.hid (HT.out.kept2 KA.out)
            have hth := HT3.out.there hlt
            have HN : Hid (Tq w (w3.setCells w.heap.size (k * 7) (tok s (0))) n (k + 1) ss) := Lib.hid (by have := HT3.out.step hlt (0); rw [← HSS.out] at this; exact this)
            have z0 : w3.cell? ⟨q, 0, none⟩ = some (.pointer none) := HBX.out.cell 0
            have z1 : w3.cell? ⟨q, 1, none⟩ = some (.string s) := HBX.out.cell 1
            have z2 : w3.cell? ⟨q, 2, none⟩ = some (.int .i32 0) := HBX.out.cell 2
            have z3 : w3.cell? ⟨q, 3, none⟩ = some (.int .u32 0) := HBX.out.cell 3
            have z4 : w3.cell? ⟨q, 4, none⟩ = some (.int .u16 0) := HBX.out.cell 4
            have z5 : w3.cell? ⟨q, 5, none⟩ = some (.int .u8 29) := HBX.out.cell 5
            have z6 : w3.cell? ⟨q, 6, none⟩ = some (.int .u8 (0)) := HBX.out.cell 6
            have HTH : Hid (w3.there w.heap.size (k * 7) (#[.pointer none, .string s, .int .i32 0, .int .u32 0, .int .u16 0, .int .u8 29, .int .u8 (0)] : Array Value).size) := Lib.hid hth
            clear hth
            have HSZ : Hid ((Try.prog.info? 49).map (·.size) = some (#[.pointer none, .string s, .int .i32 0, .int .u32 0, .int .u16 0, .int .u8 29, .int .u8 (0)] : Array Value).size) := Lib.hid sizeT49
            have HON : Hid ((#[.pointer none, .string s, .int .i32 0, .int .u32 0, .int .u16 0, .int .u8 29, .int .u8 (0)] : Array Value).all (·.oneCell') = true) := Lib.hid (by simp [Value.oneCell'])
            go_wp2_with (with_reducible refine wpList_store_mid rfl 49 (.tmp 44) (.tmp 43) rfl w.heap.size (k * 7) #[.pointer none, .string s, .int .i32 0, .int .u32 0, .int .u16 0, .int .u8 29, .int .u8 (0)] rfl rfl HTH.out HSZ.out HON.out ?_)
            go_roundw
            case rel => exact ⟨k + 1, by omega, by go_num, HN.out⟩
            case measure => simp [intOf]; omega
      · obtain rfl : k = n := by omega
        have HX : Hid (Tk wo (.slice (some ⟨w.heap.size, 0, none⟩) k k) ss) := Lib.hid (HT.out.fin HLN.out (by omega))
        go_wp2_with fail
        go_ret
        exact ⟨⟨_, rfl, HX.out⟩, HT.out.kept⟩
end Go.Proofs.Ytdnpdfiiajjcnaa.ic
