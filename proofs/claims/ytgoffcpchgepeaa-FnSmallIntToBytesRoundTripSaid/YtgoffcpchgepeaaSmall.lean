/-
  The text of a number and the contract of smallIntToBytes over this seat's program: the digits of a number, their shape and value, and what smallIntToBytes leaves in the printer's buffer.
  Conditions: the number's size is at most 2^63 - 1.
-/
import Derived.Test.YtgoffcpchgepeaaPr
import Derived.Test.YtgoffcpchgepeaaPlain
import Derived.LoopTactic
namespace Go.Proofs.Ytgoffcpchgepeaa.small
open Go.ChangeShapes Go.WideShapes Go.ChangeAt Go.RowKit
open kit pr plain

/-- the decimal digits of a number, the most significant first -/
def digs (n : Nat) : List Int := if n < 10 then [48 + (n : Int)] else digs (n / 10) ++ [48 + ((n % 10 : Nat) : Int)]
termination_by n
decreasing_by omega
theorem digs_lo {n : Nat} (h : n < 10) : digs n = [48 + (n : Int)] := by rw [digs, if_pos h]
theorem digs_hi {n : Nat} (h : ¬ n < 10) : digs n = digs (n / 10) ++ [48 + ((n % 10 : Nat) : Int)] := by rw [digs, if_neg h]
theorem digs_len (k : Nat) : ∀ n : Nat, n < 10 ^ (k + 1) → (digs n).length ≤ k + 1 := by
  induction k with
  | zero => intro n h; rw [digs_lo (by simpa using h)]; simp
  | succ k ih =>
    intro n h
    by_cases hn : n < 10
    · rw [digs_lo hn]; simp
    · rw [digs_hi hn, List.length_append]
      have : n / 10 < 10 ^ (k + 1) := by
        rw [Nat.pow_succ] at h
        omega
      have := ih _ this
      simp; omega
theorem digs_pos (n : Nat) : 1 ≤ (digs n).length := by
  by_cases hn : n < 10
  · rw [digs_lo hn]; simp
  · rw [digs_hi hn]; simp
theorem digs_spec (n : Nat) : Digits (digs n) ∧ dec (digs n) = n ∧ (1 ≤ n → 49 ≤ (digs n).getD 0 0) ∧ (n = 0 → digs n = [48]) := by
  induction n using Nat.strongRecOn with
  | _ n ih =>
    by_cases hn : n < 10
    · rw [digs_lo hn]
      refine ⟨fun x hx => ?_, ?_, fun h => ?_, fun h => ?_⟩
      · simp at hx; omega
      · simp [dec]; omega
      · simp; omega
      · subst h; rfl
    · obtain ⟨h1, h2, h3, _⟩ := ih (n / 10) (by omega)
      rw [digs_hi hn]
      refine ⟨fun x hx => ?_, ?_, fun h => ?_, fun h => by omega⟩
      · rcases List.mem_append.1 hx with h | h
        · exact h1 x h
        · simp at h; omega
      · rw [dec_snoc, h2]; omega
      · have := h3 (by omega)
        have hp := digs_pos (n / 10)
        have e : (digs (n / 10) ++ [48 + ((n % 10 : Nat) : Int)]).getD 0 0 = (digs (n / 10)).getD 0 0 := by
          rw [List.getD_eq_getElem?_getD, List.getElem?_append_left (by omega), ← List.getD_eq_getElem?_getD]
        rw [e]; exact this

/-- the printer's buffer from place st on -/
def Buf (w : World) (g st : Nat) (suf : List Int) : Prop := ∃ cs, Blk w g 111 cs ∧ 136 ≤ cs.length ∧ ∀ i, i < suf.length → cs[71 + st + i]? = some (.int .u8 (suf.getD i 0))
theorem Buf.cell {w : World} {g st : Nat} {suf : List Int} (h : Buf w g st suf) {i : Nat} (hi : i < suf.length) : w.cell? ⟨g, 71 + st + i, none⟩ = some (.int .u8 (suf.getD i 0)) := by
  obtain ⟨cs, hb, _, hc⟩ := h
  rw [hb.cell]; exact hc i hi
theorem Buf.any {w : World} {g st : Nat} {suf : List Int} (h : Buf w g st suf) (k : Nat) (hk : k < 64) : ∃ v, w.cell? ⟨g, 71 + k, none⟩ = some v := by
  obtain ⟨cs, hb, hl, _⟩ := h
  exact ⟨_, hb.cellD (by omega)⟩
theorem Buf.free {w : World} {g st : Nat} {suf : List Int} (h : Buf w g st suf) (k : Nat) : w.frozen? ⟨g, k, none⟩ = false := by
  obtain ⟨cs, hb, _, _⟩ := h
  exact hb.free k
theorem Buf.push {w : World} {g st : Nat} {suf : List Int} (h : Buf w g (st + 1) suf) (hl : st + 1 + suf.length ≤ 64) (x : Int) : Buf (w.setCell ⟨g, 71 + st, none⟩ (.int .u8 x)) g st (x :: suf) := by
  obtain ⟨cs, hb, h1, hc⟩ := h
  refine ⟨_, hb.set _ _, by simpa using h1, fun i hi => ?_⟩
  rcases i with _ | i
  · rw [Nat.add_zero, List.getElem?_set_self (by omega)]
    simp
  · have := hc i (by simpa using hi)
    rw [List.getElem?_set_ne (by omega), show 71 + st + (i + 1) = 71 + (st + 1) + i by omega, this]
    simp
theorem Buf.nil {w : World} {g : Nat} {cs : List Value} (h : Blk w g 111 cs) (hl : 136 ≤ cs.length) : Buf w g 64 [] := ⟨cs, h, hl, fun i hi => absurd hi (by simp)⟩
theorem Buf.forget {w : World} {g st : Nat} {suf : List Int} (h : Buf w g st suf) : Buf w g 64 [] := by
  obtain ⟨cs, hb, hl, _⟩ := h
  exact Buf.nil hb hl

/-- what smallIntToBytes leaves -/
def Wrote (w : World) (g : Nat) (txt : List Int) (e : Ending) (w2 : World) : Prop :=
  ∃ st, e = .returned (.slice (some ⟨g, 71 + st, none⟩) (64 - st) (64 - st)) ∧ st + txt.length = 64 ∧ Buf w2 g st txt ∧ Step w w2 g none none

def Rel (w : World) (g N : Nat) (t1 t7 : Value) (wr : World) : Prop :=
  ∃ (r st : Nat) (suf : List Int), t1 = .int .i64 (r : Int) ∧ t7 = .int .i64 (st : Int) ∧ r ≤ N ∧ st + suf.length = 64 ∧ digs r ++ suf = digs N ∧ Buf wr g st suf ∧ Step w wr g none none

set_option maxRecDepth 100000 in
set_option maxHeartbeats 4000000 in
theorem smallpos (w : World) (g N : Nat) (h : Buf w g 64 []) (hN : N ≤ 9223372036854775807) :
    Calls Try.prog 76 #[.pointer (some ⟨g, 0, none⟩), .int .i64 (N : Int)] w (Wrote w g (digs N)) := by
  have hlen : (digs N).length ≤ 19 := digs_len 18 N (by omega)
  have HI : Hid (Rel w g N (.int .i64 (N : Int)) (.int .i64 64) w) := Lib.hid ⟨N, 64, [], rfl, rfl, Nat.le_refl _, rfl, by simp, h, Step.refl _ _ _⟩
  obtain ⟨v0, hv0⟩ := h.any 0 (by omega)
  have hc0 : w.cell? ⟨g, 71, none⟩ = some v0 := hv0
  clear h hv0
  go_enter Try.func76, Try.ntmps76
  go_wp2
  go_loopw [1, 7] (fun t1 t7 wr => Rel w g N t1 t7 wr) (fun t _ _ => (intOf t).toNat)
  case atStart => exact HI.out
  case round =>
    obtain ⟨r, st, suf, rfl, rfl, hr, hst, hdg, hbuf, hstep⟩ := hrel
    clear HI hc0
    have hsl : suf.length + 1 ≤ 19 := by
      have h1 := digs_pos r
      have h2 := congrArg List.length hdg
      rw [List.length_append] at h2
      omega
    obtain ⟨s, rfl⟩ : ∃ s, st = s + 1 := ⟨st - 1, by omega⟩
    rw [show ((s + 1 : Nat) : Int) = (s : Int) + 1 from rfl]
    obtain ⟨v, hv⟩ := hbuf.any s (by omega)
    have hf := hbuf.free (71 + s)
    have i1 : (s : Int) < 64 := by omega
    have i2 : (0 : Int) ≤ (s : Int) := by omega
    have HP := Lib.hid (fun x => hbuf.push (by omega) x)
    have HST := Lib.hid hstep
    have HDG := Lib.hid hdg
    clear hbuf hdg hstep
    by_cases hlt : r < 10
    · have q1 : ((r : Int) / 10 == 0) = true := by simp; omega
      have HT : Hid ((48 + (r : Int) % 10) :: suf = digs N) := by
        have h2 := HDG.out
        rw [digs_lo hlt] at h2
        rw [← h2]
        have : (r : Int) % 10 = r := by omega
        rw [this]; rfl
      have HB := Lib.hid (HP.out (48 + (r : Int) % 10))
      clear HDG HP
      have n1 : ¬ s = 64 := by omega
      go_wp2
      go_ret
      refine ⟨s, rfl, ?_, ?_, HST.out.setCell _ _⟩
      · rw [← HT.out]; simp; omega
      · rw [← HT.out]; exact HB.out
    · have q1 : ((r : Int) / 10 == 0) = false := by simp; omega
      have HRR : Hid (Rel w g N (.int .i64 ((r : Int) / 10)) (.int .i64 (s : Int)) (wr.setCell ⟨g, 71 + s, none⟩ (.int .u8 (48 + (r : Int) % 10)))) := by
        refine Lib.hid ⟨r / 10, s, (48 + (r : Int) % 10) :: suf, by go_num, rfl, by omega, by simp; omega, ?_, HP.out _, HST.out.setCell _ _⟩
        have h2 := HDG.out
        rw [digs_hi hlt] at h2
        rw [← h2, List.append_assoc]
        congr 1
      clear HDG HP
      go_wp2
      go_roundw
      case rel => first | exact HRR.out | ((repeat apply Exists.intro); exact ⟨HRR.out, rfl⟩)
      case measure => simp [intOf]; omega

set_option maxRecDepth 100000 in
set_option maxHeartbeats 4000000 in
theorem smallneg (w : World) (g N : Nat) (h : Buf w g 64 []) (hN : N ≤ 9223372036854775807) (hp : 1 ≤ N) :
    Calls Try.prog 76 #[.pointer (some ⟨g, 0, none⟩), .int .i64 (-(N : Int))] w (Wrote w g (45 :: digs N)) := by
  have hlen : (digs N).length ≤ 19 := digs_len 18 N (by omega)
  have HI : Hid (Rel w g N (.int .i64 (N : Int)) (.int .i64 64) w) := Lib.hid ⟨N, 64, [], rfl, rfl, Nat.le_refl _, rfl, by simp, h, Step.refl _ _ _⟩
  obtain ⟨v0, hv0⟩ := h.any 0 (by omega)
  have hc0 : w.cell? ⟨g, 71, none⟩ = some v0 := hv0
  clear h hv0
  go_enter Try.func76, Try.ntmps76
  go_wp2
  go_loopw [1, 7] (fun t1 t7 wr => Rel w g N t1 t7 wr) (fun t _ _ => (intOf t).toNat)
  case atStart => exact HI.out
  case round =>
    obtain ⟨r, st, suf, rfl, rfl, hr, hst, hdg, hbuf, hstep⟩ := hrel
    clear HI hc0
    have hsl : suf.length + 1 ≤ 19 := by
      have h1 := digs_pos r
      have h2 := congrArg List.length hdg
      rw [List.length_append] at h2
      omega
    obtain ⟨s, rfl⟩ : ∃ s, st = s + 1 := ⟨st - 1, by omega⟩
    rw [show ((s + 1 : Nat) : Int) = (s : Int) + 1 from rfl]
    obtain ⟨v, hv⟩ := hbuf.any s (by omega)
    have hf := hbuf.free (71 + s)
    have i1 : (s : Int) < 64 := by omega
    have i2 : (0 : Int) ≤ (s : Int) := by omega
    have HP := Lib.hid (fun x => hbuf.push (by omega) x)
    have HST := Lib.hid hstep
    have HDG := Lib.hid hdg
    clear hbuf hdg hstep
    by_cases hlt : r < 10
    · have q1 : ((r : Int) / 10 == 0) = true := by simp; omega
      have HT : Hid ((48 + (r : Int) % 10) :: suf = digs N) := by
        have h2 := HDG.out
        rw [digs_lo hlt] at h2
        rw [← h2]
        have : (r : Int) % 10 = r := by omega
        rw [this]; rfl
      have HB := Lib.hid (HP.out (48 + (r : Int) % 10))
      clear HDG HP
      obtain ⟨u, rfl⟩ : ∃ u, s = u + 1 := ⟨s - 1, by omega⟩
      have hl2 : u + 2 + suf.length = 64 := by omega
      obtain ⟨v2, hv2⟩ := HB.out.any u (by omega)
      have hf2 := HB.out.free (71 + u)
      have HB2 := Lib.hid (HB.out.push (by simp; omega) 45)
      rw [show ((u + 1 : Nat) : Int) = (u : Int) + 1 from rfl] at *
      have n1 : ¬ u = 64 := by omega
      go_wp2
      go_ret
      refine ⟨u, rfl, ?_, ?_, (HST.out.setCell _ _).setCell _ _⟩
      · rw [← HT.out]; simp; omega
      · rw [← HT.out]; exact HB2.out
    · have q1 : ((r : Int) / 10 == 0) = false := by simp; omega
      have HRR : Hid (Rel w g N (.int .i64 ((r : Int) / 10)) (.int .i64 (s : Int)) (wr.setCell ⟨g, 71 + s, none⟩ (.int .u8 (48 + (r : Int) % 10)))) := by
        refine Lib.hid ⟨r / 10, s, (48 + (r : Int) % 10) :: suf, by go_num, rfl, by omega, by simp; omega, ?_, HP.out _, HST.out.setCell _ _⟩
        have h2 := HDG.out
        rw [digs_hi hlt] at h2
        rw [← h2, List.append_assoc]
        congr 1
      clear HDG HP
      go_wp2
      go_roundw
      case rel => first | exact HRR.out | ((repeat apply Exists.intro); exact ⟨HRR.out, rfl⟩)
      case measure => simp [intOf]; omega
end Go.Proofs.Ytgoffcpchgepeaa.small
