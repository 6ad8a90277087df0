/-
  zzCond over this seat's program: one pair of conditions.
  Conditions: none.
-/
import Derived.Test.YtdpljbhbnlcoaabRn
import Derived.Laws.Tables
import Derived.Deep.DeepCutAuto
namespace Go.Proofs.Ytdpljbhbnlcoaab.rd
open Go.ChangeShapes Go.WideShapes Go.ChangeAt Go.RowKit
open kit

/-- what a condition's tokens are: none, or one identifier -/
def Tok (w : World) (L : Value) (v : Nat) : Prop :=
  (v = 0 ∧ L = .slice none 0 0) ∨ (v ≠ 0 ∧ ∃ b : Nat, L = .slice (some ⟨b, 0, none⟩) 1 1 ∧ Blk w b 43 [.pointer none, .string (nm v), .int .i32 0, .int .u32 0, .int .u16 0, .int .u8 29, .int .u8 0])
theorem Tok.kept {w w2 : World} {L : Value} {v : Nat} (h : Tok w L v) (k : Kept w w2) : Tok w2 L v := by
  rcases h with h | ⟨h, b, e, hb⟩
  · exact .inl h
  · exact .inr ⟨h, b, e, hb.kept k⟩
def CondOk (w : World) (v : Nat) (e : Ending) (w' : World) : Prop :=
  ∃ L S, e = .returned (.agg #[.slice none 0 0, L, S]) ∧ Tok w' L (v % 256) ∧ Tok w' S (v / 256) ∧ Kept w w'
theorem Tok.form {w : World} {L : Value} {v : Nat} (h : Tok w L v) : ∃ A n, L = .slice A n n := by
  rcases h with ⟨_, e⟩ | ⟨_, b, e, _⟩
  · exact ⟨none, 0, e⟩
  · exact ⟨_, 1, e⟩
theorem tokFar {w : World} {L : Value} {v : Nat} (h : Tok w L v) {p : Addr} (hp : ∀ b o, L = .slice (some ⟨b, o, none⟩) 1 1 → b ≠ p.block) (u : Value) : Tok (w.setCell p u) L v := by
  rcases h with h | ⟨h, b, e, hb⟩
  · exact .inl h
  · exact .inr ⟨h, b, e, hb.far (hp b 0 e) u⟩
theorem tokNe {w : World} {L : Value} {v : Nat} (h : Tok w L v) {q : Nat} {cs : List Value} (hq : Blk w q 32 cs) : ∀ b o, L = .slice (some ⟨b, o, none⟩) 1 1 → b ≠ q := fun b o e hb => by
  rcases h with ⟨_, e2⟩ | ⟨_, b2, e2, h2⟩
  · rw [e2] at e; cases e
  · rw [e2] at e
    obtain ⟨rfl, rfl⟩ : b2 = b ∧ 0 = o := by simpa using e
    exact (h2.apart hq (by decide)) hb
def C5 (w : World) (v : Nat) (W : World) : Prop := ∃ L, Tok W L (v % 256) ∧ Blk W (w.heap.size + 1) 32 [.slice none 0 0, L, .slice none 0 0] ∧ Blk W w.heap.size 32 [.slice none 0 0, .slice none 0 0, .slice none 0 0] ∧ Kept w W
def C7 (w : World) (v : Nat) (W : World) : Prop := ∃ L S, Tok W L (v % 256) ∧ Tok W S (v / 256) ∧ Blk W (w.heap.size + 1) 32 [.slice none 0 0, L, S] ∧ Blk W w.heap.size 32 [.slice none 0 0, .slice none 0 0, .slice none 0 0] ∧ Kept w W
set_option maxRecDepth 100000 in
set_option maxHeartbeats 4000000 in
theorem condC (v : Nat) (hv : v ≤ 65535) (w : World) : Calls Try.prog 8 #[.int .u16 (v : Int)] w (CondOk w v) := by
  have e1 := and255 v (by omega)
  rw [show ((v % 256 : Nat) : Int) = (v : Int) % 256 by omega] at e1
  have N1 := Lib.hid (fun W => nameC (v % 256) (by omega) W)
  have N2 := Lib.hid (fun W => nameC (v / 256) (by omega) W)
  rw [show ((v % 256 : Nat) : Int) = (v : Int) % 256 by omega] at N1
  rw [show ((v / 256 : Nat) : Int) = (v : Int) / 256 by omega] at N2
  have Q1 : Hid (Blk ((w.alloc (.cells #[.slice none 0 0, .slice none 0 0, .slice none 0 0] 32)).alloc (.cells #[.slice none 0 0, .slice none 0 0, .slice none 0 0] 32)) (w.heap.size + 1) 32 [.slice none 0 0, .slice none 0 0, .slice none 0 0]) := Lib.hid (by
    have h := Blk.new (w.alloc (.cells #[.slice none 0 0, .slice none 0 0, .slice none 0 0] 32)) 32 [.slice none 0 0, .slice none 0 0, .slice none 0 0]
    simpa using h)
  have Q0 : Hid (Blk ((w.alloc (.cells #[.slice none 0 0, .slice none 0 0, .slice none 0 0] 32)).alloc (.cells #[.slice none 0 0, .slice none 0 0, .slice none 0 0] 32)) w.heap.size 32 [.slice none 0 0, .slice none 0 0, .slice none 0 0]) := Lib.hid ((Blk.new w 32 [.slice none 0 0, .slice none 0 0, .slice none 0 0]).alloc _)
  have QK : Hid (Kept w ((w.alloc (.cells #[.slice none 0 0, .slice none 0 0, .slice none 0 0] 32)).alloc (.cells #[.slice none 0 0, .slice none 0 0, .slice none 0 0] 32))) := Lib.hid (((Kept.refl w).alloc _).alloc _)
  go_enter Try.func8, Try.ntmps8
  go_upto_if 11 with (fail)
  generalize (w.alloc (.cells #[.slice none 0 0, .slice none 0 0, .slice none 0 0] 32)).alloc (.cells #[.slice none 0 0, .slice none 0 0, .slice none 0 0] 32) = w0 at *
  go_cut [4] (fun t4 W => t4 = .int .u16 ((v : Int) % 256) ∧ Hid (C5 w v W))
  case first =>
    by_cases hz : v % 256 = 0
    · have hz0 : (v : Int) % 256 = 0 := by omega
      have HZ := Lib.hid hz
      clear hz
      go_wp2_with fail
      go_meet
      exact ⟨rfl, Lib.hid ⟨.slice none 0 0, .inl ⟨HZ.out, rfl⟩, Q1.out, Q0.out, QK.out⟩⟩
    have hz0 : ((v : Int) % 256 != 0) = true := by simp; omega
    have HNZ := Lib.hid hz
    clear hz
    go_wp2_with fail
    refine (N1.out _).mono ?_
    rintro e wa ⟨rfl, ka⟩
    have B1a := Lib.hid (Q1.out.kept ka)
    have B0a := Lib.hid (Q0.out.kept ka)
    have KA := Lib.hid (QK.out.trans ka)
    have c0 := B1a.out.cell 1
    have f0 := B1a.out.free 1
    have z0 := B1a.out.lt
    go_wp2_with fail
    obtain ⟨wb, hwb⟩ : ∃ wb, wb = (wa.setCell ⟨w.heap.size + 1, 1, none⟩ (.slice (some ⟨wa.heap.size, 0, none⟩) 1 1)).alloc (.cells #[.pointer none, .string (nm (v % 256)), .int .i32 0, .int .u32 0, .int .u16 0, .int .u8 29, .int .u8 0] 43) := ⟨_, rfl⟩
    have B1 : Hid (Blk wb (w.heap.size + 1) 32 [.slice none 0 0, .slice (some ⟨wa.heap.size, 0, none⟩) 1 1, .slice none 0 0]) := Lib.hid (by rw [hwb]; exact (B1a.out.set 1 _).alloc _)
    have B0 : Hid (Blk wb w.heap.size 32 [.slice none 0 0, .slice none 0 0, .slice none 0 0]) := Lib.hid (by rw [hwb]; exact (B0a.out.far (by show w.heap.size ≠ w.heap.size + 1; omega) _).alloc _)
    have BT : Hid (Blk wb wa.heap.size 43 [.pointer none, .string (nm (v % 256)), .int .i32 0, .int .u32 0, .int .u16 0, .int .u8 29, .int .u8 0]) := Lib.hid (by rw [hwb]; have h := Blk.new (wa.setCell ⟨w.heap.size + 1, 1, none⟩ (.slice (some ⟨wa.heap.size, 0, none⟩) 1 1)) 43 [.pointer none, .string (nm (v % 256)), .int .i32 0, .int .u32 0, .int .u16 0, .int .u8 29, .int .u8 0]; simpa using h)
    have KP : Hid (Kept w wb) := Lib.hid (by rw [hwb]; exact (KA.out.setCell (by show w.heap.size ≤ w.heap.size + 1; omega) _).alloc _)
    rw [← hwb]
    go_meet
    exact ⟨rfl, Lib.hid ⟨_, .inr ⟨HNZ.out, _, rfl, BT.out⟩, B1.out, B0.out, KP.out⟩⟩
  case rest =>
    obtain ⟨rfl, hc⟩ := hcut
    obtain ⟨L, t0, q1, q0, qk⟩ := hc.out
    clear hc Q1 Q0 QK N1
    obtain ⟨w2, hw2⟩ : ∃ w2 : World, w2 = wc := ⟨_, rfl⟩
    subst hw2
    have T0 := Lib.hid t0
    have Q1 := Lib.hid q1
    have Q0 := Lib.hid q0
    have QK := Lib.hid qk
    clear t0 q1 q0 qk
    have TN : Hid (∀ b o, L = .slice (some ⟨b, o, none⟩) 1 1 → b ≠ w.heap.size + 1) := Lib.hid (fun b o e hb => by
      exact tokNe T0.out Q1.out b o e hb)
    go_upto_if 18 with (fail)
    go_cut [5] (fun t5 W => t5 = .int .u16 ((v : Int) / 256) ∧ Hid (C7 w v W))
    case first =>
      by_cases hz : v / 256 = 0
      · have hz0 : (v : Int) / 256 = 0 := by omega
        have HZ := Lib.hid hz
        clear hz
        go_wp2_with fail
        go_meet
        exact ⟨rfl, Lib.hid ⟨L, .slice none 0 0, T0.out, .inl ⟨HZ.out, rfl⟩, Q1.out, Q0.out, QK.out⟩⟩
      have hz0 : ((v : Int) / 256 != 0) = true := by simp; omega
      have HNZ := Lib.hid hz
      clear hz
      go_wp2_with fail
      refine (N2.out _).mono ?_
      rintro e wa ⟨rfl, ka⟩
      have B1a := Lib.hid (Q1.out.kept ka)
      have B0a := Lib.hid (Q0.out.kept ka)
      have KA := Lib.hid (QK.out.trans ka)
      have c0 := B1a.out.cell 2
      have f0 := B1a.out.free 2
      have z0 := B1a.out.lt
      go_wp2_with fail
      obtain ⟨wb, hwb⟩ : ∃ wb, wb = (wa.setCell ⟨w.heap.size + 1, 2, none⟩ (.slice (some ⟨wa.heap.size, 0, none⟩) 1 1)).alloc (.cells #[.pointer none, .string (nm (v / 256)), .int .i32 0, .int .u32 0, .int .u16 0, .int .u8 29, .int .u8 0] 43) := ⟨_, rfl⟩
      have B1 : Hid (Blk wb (w.heap.size + 1) 32 [.slice none 0 0, L, .slice (some ⟨wa.heap.size, 0, none⟩) 1 1]) := Lib.hid (by rw [hwb]; exact (B1a.out.set 2 _).alloc _)
      have B0 : Hid (Blk wb w.heap.size 32 [.slice none 0 0, .slice none 0 0, .slice none 0 0]) := Lib.hid (by rw [hwb]; exact (B0a.out.far (by show w.heap.size ≠ w.heap.size + 1; omega) _).alloc _)
      have BT : Hid (Blk wb wa.heap.size 43 [.pointer none, .string (nm (v / 256)), .int .i32 0, .int .u32 0, .int .u16 0, .int .u8 29, .int .u8 0]) := Lib.hid (by rw [hwb]; have h := Blk.new (wa.setCell ⟨w.heap.size + 1, 2, none⟩ (.slice (some ⟨wa.heap.size, 0, none⟩) 1 1)) 43 [.pointer none, .string (nm (v / 256)), .int .i32 0, .int .u32 0, .int .u16 0, .int .u8 29, .int .u8 0]; simpa using h)
      have KP : Hid (Kept w wb) := Lib.hid (by rw [hwb]; exact (KA.out.setCell (by show w.heap.size ≤ w.heap.size + 1; omega) _).alloc _)
      have TK : Hid (Tok wb L (v % 256)) := Lib.hid (by rw [hwb]; exact (tokFar (T0.out.kept ka) (fun b o e => by have := TN.out b o e; show b ≠ w.heap.size + 1; omega) _).kept ((Kept.refl _).alloc _))
      rw [← hwb]
      go_meet
      exact ⟨rfl, Lib.hid ⟨_, _, TK.out, .inr ⟨HNZ.out, _, rfl, BT.out⟩, B1.out, B0.out, KP.out⟩⟩
    case rest =>
      obtain ⟨rfl, hc⟩ := hcut
      obtain ⟨L3, S3, t0, t1, q1, q0, qk⟩ := hc.out
      clear hc
      obtain ⟨w3, hw3⟩ : ∃ w3 : World, w3 = wc := ⟨_, rfl⟩
      subst hw3
      have c0 : w3.cell? ⟨w.heap.size + 1, 0, none⟩ = some (.slice none 0 0) := q1.cell 0
      have c1 : w3.cell? ⟨w.heap.size + 1, 1, none⟩ = some L3 := q1.cell 1
      have c2 : w3.cell? ⟨w.heap.size + 1, 2, none⟩ = some S3 := q1.cell 2
      have d0 : w3.cell? ⟨w.heap.size, 0, none⟩ = some (.slice none 0 0) := q0.cell 0
      have d1 : w3.cell? ⟨w.heap.size, 1, none⟩ = some (.slice none 0 0) := q0.cell 1
      have d2 : w3.cell? ⟨w.heap.size, 2, none⟩ = some (.slice none 0 0) := q0.cell 2
      have f0 := q0.free 0
      have f1 := q0.free 1
      have f2 := q0.free 2
      have U0 : Hid (∀ b o, L3 = .slice (some ⟨b, o, none⟩) 1 1 → b ≠ w.heap.size) := Lib.hid (tokNe t0 q0)
      have U1 : Hid (∀ b o, S3 = .slice (some ⟨b, o, none⟩) 1 1 → b ≠ w.heap.size) := Lib.hid (tokNe t1 q0)
      have T0 := Lib.hid t0
      have T1 := Lib.hid t1
      have QK := Lib.hid qk
      clear t0 t1 q1 q0 qk
      obtain ⟨A1, n1, rfl⟩ := T0.out.form
      obtain ⟨A2, n2, rfl⟩ := T1.out.form
      have QK2 : Hid (Kept w (((w3.setCell ⟨w.heap.size, 0, none⟩ (.slice none 0 0)).setCell ⟨w.heap.size, 1, none⟩ (.slice A1 n1 n1)).setCell ⟨w.heap.size, 2, none⟩ (.slice A2 n2 n2))) := Lib.hid (((QK.out.setCell (Nat.le_refl _) _).setCell (Nat.le_refl _) _).setCell (Nat.le_refl _) _)
      go_wp2_with fail
      refine bodyPost_ret (v := .agg #[.slice none 0 0, .slice A1 n1 n1, .slice A2 n2 n2]) (by simp [results, Try.results8, go_sem, d0, d1, d2]) rfl ?_
      exact ⟨_, _, rfl, tokFar (tokFar (tokFar T0.out (fun b o e => U0.out b o (by rw [e])) _) (fun b o e => U0.out b o (by rw [e])) _) (fun b o e => U0.out b o (by rw [e])) _, tokFar (tokFar (tokFar T1.out (fun b o e => U1.out b o (by rw [e])) _) (fun b o e => U1.out b o (by rw [e])) _) (fun b o e => U1.out b o (by rw [e])) _, QK2.out⟩
end Go.Proofs.Ytdpljbhbnlcoaab.rd
