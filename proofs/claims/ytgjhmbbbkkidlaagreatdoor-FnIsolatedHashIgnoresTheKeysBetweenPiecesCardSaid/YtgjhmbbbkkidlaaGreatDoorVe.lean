/-
  The hash over whole blocks of 32 bytes.
  Conditions: the bytes are there.
-/
import Derived.LoopTactic
import Derived.Test.YtgjhmbbbkkidlaaGreatDoorVd
namespace Go.Proofs.YtgjhmbbbkkidlaaGreatDoor.hash
open Go.ChangeShapes Go.WideShapes Go.ChangeAt Go.RowKit
open Go.Proofs.YtgjhmbbbkkidlaaGreatDoor.kit
def Bytes (w : World) (b o : Nat) (l : List Int) : Prop := ∀ i, i < l.length → w.cell? ⟨b, o + i, none⟩ = some (byte (l.getD i 0))
theorem Bytes.kept {w w2 : World} {b o : Nat} {l : List Int} (h : Bytes w b o l) (k : Kept w w2) : Bytes w2 b o l := fun i hi => k.cell (h i hi)
theorem Bytes.turn {w w2 : World} {b o : Nat} {l : List Int} {d : Nat} (h : Bytes w b o l) (k : Turn w w2 (· = d)) (hn : b ≠ d) : Bytes w2 b o l := fun i hi => k.cell (h i hi) hn
noncomputable def le8at (l : List Int) (i : Nat) : Int := le8 (l.getD i 0) (l.getD (i + 1) 0) (l.getD (i + 2) 0) (l.getD (i + 3) 0) (l.getD (i + 4) 0) (l.getD (i + 5) 0) (l.getD (i + 6) 0) (l.getD (i + 7) 0)
noncomputable def blk1 (s : St) (l : List Int) (i : Nat) : St := { s with v1 := rnd s.v1 (le8at l i), v2 := rnd s.v2 (le8at l (i + 8)), v3 := rnd s.v3 (le8at l (i + 16)), v4 := rnd s.v4 (le8at l (i + 24)) }
noncomputable def blks (s : St) (l : List Int) : Nat → St
  | 0 => s
  | m + 1 => blk1 (blks s l m) l (32 * m)
theorem blks_mem (s : St) (l : List Int) (m : Nat) : (blks s l m).mem = s.mem ∧ (blks s l m).n = s.n ∧ (blks s l m).tot = s.tot := by
  induction m with
  | zero => exact ⟨rfl, rfl, rfl⟩
  | succ m ih => exact ih
def lenOf : Value → Nat
  | .slice _ l _ => l
  | _ => 0
theorem u64_at {W : World} {b o : Nat} {l : List Int} (hl : Bytes W b o l) (p : Nat) (hp : p + 8 ≤ l.length) (cp : Nat) (hc : 8 ≤ cp) (A : Addr) (hA : A = ⟨b, o + p, none⟩) :
    Calls Tryz.prog 33 #[.slice (some A) 8 cp] W fun e w' => e = .returned (.int .u64 (le8at l p)) ∧ Kept W w' := by
  subst hA
  have h := fun i (hi : i < 8) => hl (p + i) (by omega)
  simp only [← Nat.add_assoc] at h
  exact u8_calls _ _ _ _ _ _ _ _ W b (o + p) cp hc (h 0 (by omega)) (h 1 (by omega)) (h 2 (by omega)) (h 3 (by omega)) (h 4 (by omega)) (h 5 (by omega)) (h 6 (by omega)) (h 7 (by omega))
set_option maxHeartbeats 2000000 in
theorem blocks_run (d b o cp : Nat) (l : List Int) (hcp : l.length ≤ cp) (hm : cp ≤ maxLen) (w : World) (s : St) (hs : s.mem.length = 32) (hb : Blk w d 194 (enc s)) (hl : Bytes w b o l) (hne : b ≠ d) (h32 : 32 ≤ l.length) :
    Calls Tryz.prog 80 #[.pointer (some ⟨d, 0, none⟩), .slice (some ⟨b, o, none⟩) l.length cp] w fun e w' => e = .returned (.int .i64 ((32 * (l.length / 32) : Nat) : Int)) ∧ Blk w' d 194 (enc (blks s l (l.length / 32))) ∧ Turn w w' (· = d) := by
  have HL := Lib.hid hl
  have HB := Lib.hid hb
  have hc1 : w.cell? ⟨d, 0, none⟩ = some (.int .u64 s.v1) := hb.cell 0
  have hc2 : w.cell? ⟨d, 1, none⟩ = some (.int .u64 s.v2) := hb.cell 1
  have hc3 : w.cell? ⟨d, 2, none⟩ = some (.int .u64 s.v3) := hb.cell 2
  have hc4 : w.cell? ⟨d, 3, none⟩ = some (.int .u64 s.v4) := hb.cell 3
  clear hl hb
  generalize hL : l.length = L at *
  have HLL := Lib.hid hL
  clear hL
  go_enter Tryz.func80, Tryz.ntmps80
  go_wp2
  go_quiet (fail)
  go_wp2
  go_loopw [1, 5, 6, 7, 8] (fun t1 t5 t6 t7 t8 wr => ∃ (m c : Nat) (A : Addr), 32 * m ≤ L ∧ L - 32 * m ≤ c ∧ c ≤ maxLen ∧ (32 * m < L → A = ⟨b, o + 32 * m, none⟩) ∧ t1 = .slice (some A) (L - 32 * m) c ∧ t5 = .int .u64 (blks s l m).v1 ∧ t6 = .int .u64 (blks s l m).v2 ∧ t7 = .int .u64 (blks s l m).v3 ∧ t8 = .int .u64 (blks s l m).v4 ∧ Kept w wr) (fun t1 _ _ _ _ _ => lenOf t1)
  case atStart =>
    exact ⟨0, cp, ⟨b, o, none⟩, by omega, by omega, hm, fun _ => rfl, rfl, rfl, rfl, rfl, rfl, (Kept.refl w).drewN _⟩
  case round =>
    obtain ⟨m, c, A, h1, h2, h3, hA, rfl, rfl, rfl, rfl, rfl, hk⟩ := hrel
    by_cases hlt : 32 ≤ L - 32 * m
    · obtain rfl := hA (by omega)
      clear hA
      have hlen : 32 * m + 32 ≤ l.length := by rw [HLL.out]; omega
      have HM := Lib.hid hlen
      clear hlen
      go_wp2_with (first
        | (go_at_call 33; refine (u64_at (HL.out.kept (by assumption)) (32 * m) (by have := HM.out; omega) _ (by omega) _ (by first | rfl | (simp only [Addr.mk.injEq, true_and, and_true]; omega))).mono ?_; rintro e w' ⟨rfl, hkx⟩; have hky := Kept.trans (by assumption) hkx; clear hkx)
        | (go_at_call 33; refine (u64_at (HL.out.kept (by assumption)) (32 * m + 8) (by have := HM.out; omega) _ (by omega) _ (by first | rfl | (simp only [Addr.mk.injEq, true_and, and_true]; omega))).mono ?_; rintro e w' ⟨rfl, hkx⟩; have hky := Kept.trans (by assumption) hkx; clear hkx)
        | (go_at_call 33; refine (u64_at (HL.out.kept (by assumption)) (32 * m + 16) (by have := HM.out; omega) _ (by omega) _ (by first | rfl | (simp only [Addr.mk.injEq, true_and, and_true]; omega))).mono ?_; rintro e w' ⟨rfl, hkx⟩; have hky := Kept.trans (by assumption) hkx; clear hkx)
        | (go_at_call 33; refine (u64_at (HL.out.kept (by assumption)) (32 * m + 24) (by have := HM.out; omega) _ (by omega) _ (by first | rfl | (simp only [Addr.mk.injEq, true_and, and_true]; omega))).mono ?_; rintro e w' ⟨rfl, hkx⟩; have hky := Kept.trans (by assumption) hkx; clear hkx)
        | (go_at_call 32; refine (round_calls _ _ _).mono ?_; rintro e w' ⟨rfl, rfl⟩))
      go_roundw
      have hR : ∃ (q c2 : Nat) (A : Addr), 32 * q ≤ L ∧ L - 32 * q ≤ c2 ∧ c2 ≤ maxLen ∧ (32 * q < L → A = ⟨b, o + 32 * q, none⟩) ∧ Value.slice (if L - 32 * m = 32 then some (⟨b, o + 32 * m, none⟩ : Addr) else some ⟨b, o + 32 * m + 32, none⟩) (L - 32 * m - 32) (L - 32 * m - 32) = .slice (some A) (L - 32 * q) c2 ∧
          Value.int .u64 (rnd (blks s l m).v1 (le8at l (32 * m))) = .int .u64 (blks s l q).v1 ∧ Value.int .u64 (rnd (blks s l m).v2 (le8at l (32 * m + 8))) = .int .u64 (blks s l q).v2 ∧
          Value.int .u64 (rnd (blks s l m).v3 (le8at l (32 * m + 16))) = .int .u64 (blks s l q).v3 ∧ Value.int .u64 (rnd (blks s l m).v4 (le8at l (32 * m + 24))) = .int .u64 (blks s l q).v4 ∧ Kept w w' := by
        refine ⟨m + 1, L - 32 * m - 32, if L - 32 * m = 32 then ⟨b, o + 32 * m, none⟩ else ⟨b, o + 32 * m + 32, none⟩, by omega, by omega, by omega, fun h => ?_, ?_, rfl, rfl, rfl, rfl, hky⟩
        · rw [if_neg (by omega)]
          simp only [Addr.mk.injEq, true_and, and_true]
          omega
        · rw [show L - 32 * (m + 1) = L - 32 * m - 32 by omega]
          split <;> rfl
      case rel => first | exact hR | ((repeat apply Exists.intro); exact ⟨hR, rfl⟩)
      case measure => simp only [lenOf]; omega
    · have hb' : Blk wr d 194 (enc s) := HB.out.kept hk
      have f0 := hb'.free 0
      have f1 := hb'.free 1
      have f2 := hb'.free 2
      have f3 := hb'.free 3
      have c0 : wr.cell? ⟨d, 0, none⟩ = some (.int .u64 s.v1) := hb'.cell 0
      have c1 : wr.cell? ⟨d, 1, none⟩ = some (.int .u64 s.v2) := hb'.cell 1
      have c2 : wr.cell? ⟨d, 2, none⟩ = some (.int .u64 s.v3) := hb'.cell 2
      have c3 : wr.cell? ⟨d, 3, none⟩ = some (.int .u64 s.v4) := hb'.cell 3
      have HB2 := Lib.hid hb'
      have HK := Lib.hid hk
      clear hb' hk hc1 hc2 hc3 hc4
      go_wp2
      go_ret
      have em : m = L / 32 := by omega
      have h2 := (((HB2.out.set 0 (.int .u64 (blks s l m).v1)).set 1 (.int .u64 (blks s l m).v2)).set 2 (.int .u64 (blks s l m).v3)).set 3 (.int .u64 (blks s l m).v4)
      have e2 : ((((enc s).set 0 (.int .u64 (blks s l m).v1)).set 1 (.int .u64 (blks s l m).v2)).set 2 (.int .u64 (blks s l m).v3)).set 3 (.int .u64 (blks s l m).v4) = enc (blks s l m) := by
        obtain ⟨e1, e2, e3⟩ := blks_mem s l m
        simp only [enc, List.set_cons_zero, List.set_cons_succ, e1, e2, e3]
      rw [e2] at h2
      subst em
      refine ⟨?_, h2, ((((Turn.of_kept HK.out (· = d)).set rfl _).set rfl _).set rfl _).set rfl _⟩
      show Ending.returned (.int .i64 (wrap64 ((L : Int) - ((L - 32 * (L / 32) : Nat) : Int)))) = _
      have e3 : ((L : Int) - ((L - 32 * (L / 32) : Nat) : Int)) = ((32 * (L / 32) : Nat) : Int) := by omega
      have e4 : RowKit.wrap64 ((32 * (L / 32) : Nat) : Int) = ((32 * (L / 32) : Nat) : Int) := by unfold RowKit.wrap64; unfold maxLen at *; omega
      rw [e3, e4]
end Go.Proofs.YtgjhmbbbkkidlaaGreatDoor.hash
