/-
  zzRefSet over this seat's program: the set of the refs that the rows spell.
  Conditions: at most 65536 refs.
-/
import Derived.Test.YtbnkhpbgibgahaaFt
import Derived.StillTailTactics
namespace Go.Proofs.Ytbnkhpbgibgahaa.es
open Go.ChangeShapes Go.WideShapes Go.ChangeAt Go.RowKit
open kit ms fl rf

theorem mkMap (n : Nat) (W : World) : (Instr.makeMap 32 (some (.int .i64 (n : Int)))).run Try.prog W = .ok (.map (some W.heap.size)) (W.alloc (.map #[] 0)) := by
  simp [Instr.makeMap, run_underlying Try.underlying32, asInt, asIntOf, Result.andThen]
def M3 (w : World) (q n : Nat) (S P Q : List Int) (t : Value) (W : World) : Prop := ∃ k : Nat, k ≤ n ∧ t = .int .i64 (k : Int) ∧ Rs W q (ents S P Q k) ∧ Kept w W
def SetOf (w : World) (L : List En) (e : Ending) (w' : World) : Prop := ∃ q, e = .returned (.map (some q)) ∧ w.heap.size ≤ q ∧ Rs w' q L ∧ Kept w w'
set_option maxRecDepth 100000 in
set_option maxHeartbeats 8000000 in
theorem refSet (w : World) (A B C : Option Addr) (lS lP lQ cS cP cQ n : Nat) (S P Q : List Int) (h : Inp w A B C lS lP lQ cS cP cQ S P Q n) :
    Calls Try.prog 11 #[.slice B lP cP, .slice C lQ cQ, .int .i64 (n : Int)] w (SetOf w (ents S P Q n)) := by
  have hn := h.n6
  have hnP := h.nP
  have hnQ := h.nQ
  have HI := Lib.hid h
  clear h
  obtain ⟨q, hq⟩ : ∃ q, q = w.heap.size := ⟨_, rfl⟩
  have H0 : Hid (M3 w q n S P Q (.int .i64 0) (w.alloc (.map #[] 0))) := Lib.hid ⟨0, Nat.zero_le _, rfl, by
    have : ents S P Q 0 = [] := rfl
    rw [this, hq]
    exact Rs.made w, (Kept.refl w).alloc _⟩
  have hmm := mkMap n w
  rw [← hq] at hmm
  have HQ := Lib.hid hq
  clear hq
  generalize w.alloc (.map #[] 0) = wa at *
  go_enter Try.func11, Try.ntmps11
  go_wp2_with fail
  clear hmm
  go_loopw [8] (fun t W => M3 w q n S P Q t W) (fun t _ => n - (intOf t).toNat)
  case atStart => exact H0.out
  case round =>
    obtain ⟨k, hk, rfl, hs, hkp⟩ := hrel
    have HS := Lib.hid hs
    have HK := Lib.hid hkp
    clear hs hkp H0
    by_cases hlt : k < n
    · obtain ⟨bS, oS, bP, oP, bQ, oQ, p, rfl, rfl, rfl, ep, hp, c1, c2, c3⟩ := (HI.out.kept HK.out).at_ hlt
      obtain ⟨w5, hst, hs5, hg5, hz5⟩ := (HS.out.kept (Kept.refl wr).drew).store (e := ent3 S P Q k) ((HI.out.good _ (ents_mem.2 ⟨k, hlt, rfl⟩)).1) (by rw [ents_length]; omega)
      unfold key ent3 at hst
      dsimp only at hst
      rw [ep] at hst
      have HN : Hid (M3 w q n S P Q (.int .i64 ((k : Int) + 1)) w5) := Lib.hid ⟨k + 1, by omega, by go_num, by rw [ents_succ]; exact hs5, by
        have h := HQ.out
        exact ⟨hg5.os.trans HK.out.os, hg5.tape.trans HK.out.drew.tape, hg5.output.trans HK.out.output, Nat.le_trans HK.out.size hg5.size, fun j hj => (hg5.block j (Nat.lt_of_lt_of_le hj HK.out.size) (fun e => by injection e; omega)).trans (HK.out.block j hj)⟩⟩
      have i1 : (k : Int) < (lP : Int) := by omega
      have i2 : (k : Int) < (lQ : Int) := by omega
      have i5 : (0 : Int) ≤ (k : Int) := by omega
      clear hs5 hg5 hz5 ep c3 HS HK
      generalize Q.getD k 0 = xn at *
      go_upto_region 5 with fail
      go_still_tail 10, (by kernel_rfl)
      change wpList _ _ _ _ _ wr.drew
      clear c1 c2
      generalize wr.drew = w2 at *
      go_wp2_with fail
      go_roundw
      case rel => first | exact HN.out | ((repeat apply Exists.intro); exact ⟨HN.out, rfl⟩)
      case measure => simp [intOf] <;> omega
    · obtain rfl : k = n := by omega
      have HF : Hid (SetOf w (ents S P Q k) (.returned (.map (some q))) wr) := Lib.hid ⟨q, rfl, by have := HQ.out; omega, HS.out, HK.out⟩
      clear HS HK
      go_wp2_with fail
      go_ret
      exact HF.out
end Go.Proofs.Ytbnkhpbgibgahaa.es
