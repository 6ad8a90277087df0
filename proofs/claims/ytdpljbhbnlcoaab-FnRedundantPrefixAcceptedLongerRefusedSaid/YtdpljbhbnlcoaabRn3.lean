/-
  zzConds over this seat's program: the list of conditions.
  Conditions: at most 2^20 of them.
-/
import Derived.Test.YtdpljbhbnlcoaabRn2
import Derived.Test.YtdpljbhbnlcoaabMk
import Derived.LoopTactic
namespace Go.Proofs.Ytdpljbhbnlcoaab.rd
open Go.ChangeShapes Go.WideShapes Go.ChangeAt Go.RowKit
open kit

/-- the first k conditions of a block of n -/
def Conds (w : World) (b n k : Nat) (f : Nat → Nat) : Prop :=
  ∃ cs : List Value, Blk w b 32 cs ∧ cs.length = n * 3 ∧ ∀ j, j < k → ∃ L S, cs[j * 3]? = some (.slice none 0 0) ∧ cs[j * 3 + 1]? = some L ∧ cs[j * 3 + 2]? = some S ∧ Tok w L (f j % 256) ∧ Tok w S (f j / 256)
theorem Conds.kept {w w2 : World} {b n k : Nat} {f : Nat → Nat} (h : Conds w b n k f) (hk : Kept w w2) : Conds w2 b n k f := by
  obtain ⟨cs, h1, h2, h3⟩ := h
  exact ⟨cs, h1.kept hk, h2, fun j hj => by
    obtain ⟨L, S, a1, a2, a3, a4, a5⟩ := h3 j hj
    exact ⟨L, S, a1, a2, a3, a4.kept hk, a5.kept hk⟩⟩
theorem tokFar32 {w : World} {L : Value} {v : Nat} (h : Tok w L v) {q : Nat} {cs : List Value} (hq : Blk w q 32 cs) (i : Nat) (u : Value) : Tok (w.setCell ⟨q, i, none⟩ u) L v := tokFar h (tokNe h hq) u
theorem Conds.put {w : World} {b n k : Nat} {f : Nat → Nat} (h : Conds w b n k f) (hk : k < n) {L S : Value} (hL : Tok w L (f k % 256)) (hS : Tok w S (f k / 256)) :
    Conds (((w.setCell ⟨b, k * 3, none⟩ (.slice none 0 0)).setCell ⟨b, k * 3 + 1, none⟩ L).setCell ⟨b, k * 3 + 2, none⟩ S) b n (k + 1) f := by
  obtain ⟨cs, h1, h2, h3⟩ := h
  have b1 := h1.set (k * 3) (.slice none 0 0)
  have b2 := b1.set (k * 3 + 1) L
  have keep : ∀ {X : Value} {v : Nat}, Tok w X v → Tok (((w.setCell ⟨b, k * 3, none⟩ (.slice none 0 0)).setCell ⟨b, k * 3 + 1, none⟩ L).setCell ⟨b, k * 3 + 2, none⟩ S) X v := fun t => tokFar32 (tokFar32 (tokFar32 t h1 _ _) b1 _ _) b2 _ _
  refine ⟨_, b2.set (k * 3 + 2) S, by simpa using h2, fun j hj => ?_⟩
  by_cases e : j = k
  · subst e
    refine ⟨L, S, ?_, ?_, ?_, keep hL, keep hS⟩
    · rw [List.getElem?_set_ne (by omega), List.getElem?_set_ne (by omega), List.getElem?_set_self (by omega)]
    · rw [List.getElem?_set_ne (by omega), List.getElem?_set_self (by simp; omega)]
    · rw [List.getElem?_set_self (by simp; omega)]
  · obtain ⟨L2, S2, a1, a2, a3, a4, a5⟩ := h3 j (by omega)
    refine ⟨L2, S2, ?_, ?_, ?_, keep a4, keep a5⟩
    · rw [List.getElem?_set_ne (by omega), List.getElem?_set_ne (by omega), List.getElem?_set_ne (by omega)]; exact a1
    · rw [List.getElem?_set_ne (by omega), List.getElem?_set_ne (by omega), List.getElem?_set_ne (by omega)]; exact a2
    · rw [List.getElem?_set_ne (by omega), List.getElem?_set_ne (by omega), List.getElem?_set_ne (by omega)]; exact a3
theorem Conds.there {w : World} {b n k : Nat} {f : Nat → Nat} (h : Conds w b n k f) {i : Nat} (hi : i < n * 3) : ∃ v, w.cell? ⟨b, i, none⟩ = some v ∧ w.frozen? ⟨b, i, none⟩ = false := by
  obtain ⟨cs, h1, h2, _⟩ := h
  exact ⟨_, h1.cellD (by omega), h1.free i⟩
def C4 (w : World) (q n : Nat) (f : Nat → Nat) (t : Value) (W : World) : Prop := ∃ k : Nat, k ≤ n ∧ t = .int .i64 (k : Int) ∧ Hid (Conds W q n k f ∧ Kept w W)
def fn (zs : List Int) (j : Nat) : Nat := (zs.getD j 0).toNat

set_option maxRecDepth 100000 in
set_option maxHeartbeats 4000000 in
theorem condsC (A : Option Addr) (n c : Nat) (zs : List Int) (w : World) (hr : Row w A n c (zs.map (Value.int .u16))) (hz : ∀ j, 0 ≤ zs.getD j 0 ∧ zs.getD j 0 ≤ 65535) (hn : n ≤ 1048576) :
    Calls Try.prog 6 #[.slice A n c] w fun e w' => e = .returned (.slice (some ⟨w.heap.size, 0, none⟩) n n) ∧ Conds w' w.heap.size n n (fn zs) ∧ Kept w w' := by
  obtain ⟨C, hC, _, hmk⟩ := makeN (T := 25) (E := 32) (size := 3) (bytes := 72) Try.underlying25 (by kernel_rfl) n (by omega) (by omega)
  have HR := Lib.hid hr
  have HZ := Lib.hid hz
  have H0 : Hid (Conds (w.alloc (.cells C.toArray 32)) w.heap.size n 0 (fn zs)) := Lib.hid ⟨C, Blk.new w 32 C, hC, fun j hj => absurd hj (by omega)⟩
  clear hr hz hC
  go_enter Try.func6, Try.ntmps6
  go_wp2_with fail
  have HS : Hid (C4 w w.heap.size n (fn zs) (.int .i64 0) (w.alloc (.cells C.toArray 32))) := Lib.hid ⟨0, Nat.zero_le _, rfl, Lib.hid ⟨H0.out, (Kept.refl _).alloc _⟩⟩
  generalize w.alloc (.cells C.toArray 32) = wa at *
  clear H0 hmk
  go_loopw [4] (fun t4 W => C4 w w.heap.size n (fn zs) t4 W) (fun t4 _ => n - (intOf t4).toNat)
  case atStart => exact HS.out
  case round =>
    obtain ⟨k, hk, rfl, HB⟩ := hrel
    clear HS
    by_cases hkn : k < n
    · have hki : (k : Int) < (n : Int) := by omega
      obtain ⟨b, off, rfl, hb, hc⟩ := HR.out.2.2.2.2 (by omega)
      have hlen : zs.length = n := by simpa using HR.out.1
      have c1 : wr.cell? ⟨b, off + k, none⟩ = some (.int .u16 (zs.getD k 0)) := by
        have h1 := HB.out.2.cell (hc k (by simpa [hlen] using hkn))
        rw [h1]; simp [hlen, hkn]
      have hfk : fn zs k = (zs.getD k 0).toNat := rfl
      have hzk := HZ.out k
      have HLEN := Lib.hid hlen
      clear hc hb hlen
      obtain ⟨v, hv⟩ : ∃ v : Nat, zs.getD k 0 = (v : Int) := ⟨(zs.getD k 0).toNat, by omega⟩
      rw [hv] at c1 hfk hzk
      have HFK : Hid (fn zs k = v) := Lib.hid (by rw [hfk]; simp)
      clear hv hfk
      have CC := Lib.hid (condC v (by omega) wr)
      go_wp2_with fail
      refine CC.out.mono ?_
      rintro e w1 ⟨L, S, rfl, tL, tS, k1⟩
      obtain ⟨A1, n1, rfl⟩ := tL.form
      obtain ⟨A2, n2, rfl⟩ := tS.form
      have CD := Lib.hid (HB.out.1.kept k1)
      have KD := Lib.hid (HB.out.2.trans k1)
      obtain ⟨x0, y0, z0⟩ := CD.out.there (i := k * 3) (by omega)
      obtain ⟨x1, y1, z1⟩ := CD.out.there (i := k * 3 + 1) (by omega)
      obtain ⟨x2, y2, z2⟩ := CD.out.there (i := k * 3 + 2) (by omega)
      have HRR : Hid (C4 w w.heap.size n (fn zs) (.int .i64 ((k : Int) + 1)) (((w1.setCell ⟨w.heap.size, k * 3, none⟩ (.slice none 0 0)).setCell ⟨w.heap.size, k * 3 + 1, none⟩ (.slice A1 n1 n1)).setCell ⟨w.heap.size, k * 3 + 2, none⟩ (.slice A2 n2 n2))) := Lib.hid ⟨k + 1, by omega, by go_num, Lib.hid ⟨CD.out.put hkn (by rw [HFK.out]; exact tL) (by rw [HFK.out]; exact tS), ((KD.out.setCell (Nat.le_refl _) _).setCell (Nat.le_refl _) _).setCell (Nat.le_refl _) _⟩⟩
      clear tL tS k1 CC HB
      go_wp2_with fail
      go_roundw
      case rel => first | exact HRR.out | ((repeat apply Exists.intro); exact ⟨HRR.out, rfl⟩)
      case measure => simp [intOf]; omega
    · obtain rfl : n = k := by omega
      go_wp2_with fail
      go_ret
      exact ⟨rfl, HB.out.1, HB.out.2⟩
end Go.Proofs.Ytdpljbhbnlcoaab.rd
