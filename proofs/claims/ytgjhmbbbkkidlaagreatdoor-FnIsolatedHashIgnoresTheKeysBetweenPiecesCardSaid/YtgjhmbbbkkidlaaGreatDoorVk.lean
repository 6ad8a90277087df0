/-
  The digest's sum.
  Conditions: none.
-/
import Derived.LoopTactic
import Derived.StillTailTactics
import Derived.Test.YtgjhmbbbkkidlaaGreatDoorVij
namespace Go.Proofs.YtgjhmbbbkkidlaaGreatDoor.hash
open Go.ChangeShapes Go.WideShapes Go.ChangeAt Go.RowKit
open Go.Proofs.YtgjhmbbbkkidlaaGreatDoor.kit
def natOf : Value → Nat
  | .int _ x => x.toNat
  | _ => 0
def base8 (s : St) : Nat := 8 * (s.n / 8)
noncomputable def h0a (s : St) : Int := IntKind.u64.wrap (mrg (mrg (mrg (mrg (IntKind.u64.wrap (IntKind.u64.wrap (IntKind.u64.wrap (rot1 s.v1 + rot7 s.v2) + rot12 s.v3) + rot18 s.v4)) s.v1) s.v2) s.v3) s.v4 + s.tot)
noncomputable def h0b (s : St) : Int := IntKind.u64.wrap (IntKind.u64.wrap (s.v3 + 2870177450012600261) + s.tot)
noncomputable def step8 (h x : Int) : Int := IntKind.u64.wrap (IntKind.u64.wrap (rot27 (bits BinOp.xor IntKind.u64 h (rnd 0 x)) * 11400714785074694791) + 9650029242287828579)
noncomputable def it8 (s : St) (h0 : Int) : Nat → Int
  | 0 => h0
  | m + 1 => step8 (it8 s h0 m) (le8at s.mem (8 * m))
noncomputable def h4a (s : St) (h : Int) : Int := IntKind.u64.wrap (IntKind.u64.wrap (rot23 (bits BinOp.xor IntKind.u64 h (IntKind.u64.wrap (IntKind.u64.wrap (le4 (s.mem.getD (base8 s) 0) (s.mem.getD (base8 s + 1) 0) (s.mem.getD (base8 s + 2) 0) (s.mem.getD (base8 s + 3) 0)) * 11400714785074694791))) * 14029467366897019727) + 1609587929392839161)
noncomputable def step1 (h x : Int) : Int := IntKind.u64.wrap (rot11 (bits BinOp.xor IntKind.u64 h (IntKind.u64.wrap (IntKind.u64.wrap x * 2870177450012600261))) * 11400714785074694791)
noncomputable def it1 (s : St) (h : Int) (i : Nat) : Nat → Int
  | 0 => h
  | m + 1 => step1 (it1 s h i m) (s.mem.getD (i + m) 0)
theorem base8_le (s : St) : base8 s ≤ s.n ∧ s.n < base8 s + 8 := by unfold base8; omega
theorem u32_at {W : World} {b o : Nat} {l : List Int} (hl : Bytes W b o l) (p : Nat) (hp : p + 4 ≤ l.length) (cp : Nat) (hc : 4 ≤ cp) (A : Addr) (hA : A = ⟨b, o + p, none⟩) :
    Calls Tryz.prog 35 #[.slice (some A) 4 cp] W fun e w' => e = .returned (.int .u32 (le4 (l.getD p 0) (l.getD (p + 1) 0) (l.getD (p + 2) 0) (l.getD (p + 3) 0))) ∧ Kept W w' := by
  subst hA
  have h := fun i (hi : i < 4) => hl (p + i) (by omega)
  simp only [← Nat.add_assoc] at h
  exact u4_calls _ _ _ _ W b (o + p) cp hc (h 0 (by omega)) (h 1 (by omega)) (h 2 (by omega)) (h 3 (by omega))
theorem slice_w (d lo k : Nat) (h0 : 0 < k) (h2 : lo + k ≤ 32) (z : Int) (hz : z = lo + k) (W : World) : (Instr.sliceAt 192 (.pointer (some ⟨d, 5, none⟩)) (some (.int .i64 lo)) (some (.int .i64 z)) none).run Tryz.prog W = Result.ok (.slice (some ⟨d, 5 + lo, none⟩) k (32 - lo)) W := by
  have := slice_8 d lo (lo + k) (by omega) h2 W
  rw [show ((lo + k : Nat) : Int) = z by omega] at this
  rw [this]
  rw [show lo + k - lo = k by omega]
set_option maxRecDepth 100000 in
set_option maxHeartbeats 4000000 in
theorem sum_long4 (s : St) (hs : s.ok) (ht : 32 ≤ s.tot) (h4 : base8 s + 4 ≤ s.n) : ∃ r : Int, ∀ (d : Nat) (w : World), Blk w d 194 (enc s) →
    Calls Tryz.prog 26 #[.pointer (some ⟨d, 0, none⟩)] w fun e w' => e = .returned (.int .u64 r) ∧ Kept w w' := by
  have hn := hs.2
  have hb8 := base8_le s
  apply Exists.intro
  case h =>
    intro d w hb
    have HB := Lib.hid hb
    have c0 : w.cell? ⟨d, 0, none⟩ = some (.int .u64 s.v1) := hb.cell 0
    have c1 : w.cell? ⟨d, 1, none⟩ = some (.int .u64 s.v2) := hb.cell 1
    have c2 : w.cell? ⟨d, 2, none⟩ = some (.int .u64 s.v3) := hb.cell 2
    have c3 : w.cell? ⟨d, 3, none⟩ = some (.int .u64 s.v4) := hb.cell 3
    have c4 : w.cell? ⟨d, 4, none⟩ = some (.int .u64 s.tot) := hb.cell 4
    have c37 : w.cell? ⟨d, 37, none⟩ = some (.int .i64 s.n) := (hb.cell 37).trans (enc_n hs.1)
    clear hb
    go_enter Tryz.func26, Tryz.ntmps26
    go_wp2
    go_quiet (fail)
    go_wp2_with (first
      | (go_at_call 27; refine (rol1_calls _ _).mono ?_; rintro e w' ⟨rfl, rfl⟩)
      | (go_at_call 28; refine (rol7_calls _ _).mono ?_; rintro e w' ⟨rfl, rfl⟩)
      | (go_at_call 29; refine (rol12_calls _ _).mono ?_; rintro e w' ⟨rfl, rfl⟩)
      | (go_at_call 30; refine (rol18_calls _ _).mono ?_; rintro e w' ⟨rfl, rfl⟩)
      | (go_at_call 31; refine (merge_calls _ _ _).mono ?_; rintro e w' ⟨rfl, rfl⟩))
    go_quiet (fail)
    go_wp2
    go_loopw [3, 8, 10] (fun t3 t8 _ wr => ∃ (m i : Nat), i = 8 * m ∧ i ≤ s.n ∧ t3 = .int .u64 (it8 s (h0a s) m) ∧ t8 = .int .i64 (i : Int) ∧ Kept w wr) (fun _ t8 _ _ => s.n - natOf t8)
    case atStart =>
      exact ⟨0, 0, rfl, by omega, rfl, rfl, by repeat (first | exact Kept.refl _ | apply Kept.drewN)⟩
    case round =>
      obtain ⟨m, i, hi, h1, rfl, rfl, hk⟩ := hrel
      have Hi := Lib.hid hi
      clear hi
      have HBy := Lib.hid (fun (X : World) (k : Kept wr X) => ((HB.out.kept hk).kept k).mem hs.1)
      by_cases hlt : i + 8 ≤ s.n
      · have hsl := slice_w d i 8 (by omega) (by omega) ((i : Int) + 8) (by omega)
        have HC := Lib.hid (u64_at (HBy.out wr (Kept.refl _)) i (by rw [hs.1]; omega) (32 - i) (by omega) ⟨d, 5 + i, none⟩ rfl)
        go_wp2_with (first
          | (go_at_call 33; refine HC.out.mono ?_; rintro e w' ⟨rfl, hkx⟩)
          | (go_at_call 32; refine (round_calls _ _ _).mono ?_; rintro e w' ⟨rfl, rfl⟩)
          | (go_at_call 34; refine (rol27_calls _ _).mono ?_; rintro e w' ⟨rfl, rfl⟩))
        refine ⟨⟨m + 1, i + 8, by have := Hi.out; omega, hlt, ?_, by rw [Int.natCast_add]; rfl, hk.trans hkx⟩, ?_⟩
        · show Value.int _ (step8 (it8 s (h0a s) m) (le8at s.mem i)) = _
          rw [Hi.out]
          rfl
        · simp only [natOf]
          omega
      · obtain rfl : m = s.n / 8 := by have := Hi.out; omega
        obtain rfl : i = base8 s := Hi.out
        clear hlt
        have hsl := slice_w d (base8 s) 4 (by omega) (by omega) ((base8 s : Int) + 4) (by omega)
        have HC := Lib.hid (u32_at (HBy.out wr (Kept.refl _)) (base8 s) (by rw [hs.1]; omega) (32 - base8 s) (by omega) ⟨d, 5 + base8 s, none⟩ rfl)
        go_wp2_with (first
          | (go_at_call 35; refine HC.out.mono ?_; rintro e w' ⟨rfl, hkx⟩; have hk2 := hk.trans hkx)
          | (go_at_call 36; refine (rol23_calls _ _).mono ?_; rintro e w' ⟨rfl, rfl⟩))
        go_loopw [3, 8] (fun t3 t8 wr => ∃ (k j : Nat), j = base8 s + 4 + k ∧ j ≤ s.n ∧ t3 = .int .u64 (it1 s (h4a s (it8 s (h0a s) (s.n / 8))) (base8 s + 4) k) ∧ t8 = .int .i64 (j : Int) ∧ Kept w wr) (fun _ t8 _ => s.n - natOf t8)
        case atStart =>
          exact ⟨0, base8 s + 4, rfl, h4, rfl, by rw [Int.natCast_add]; rfl, hk2⟩
        case round =>
          obtain ⟨k, j, hj, h1, rfl, rfl, hk⟩ := hrel
          have Hj := Lib.hid hj
          clear hj
          have HBy := Lib.hid (fun (X : World) (k : Kept wr X) => ((HB.out.kept hk).kept k).mem hs.1)
          by_cases hlt : j < s.n
          · have hc : wr.cell? ⟨d, 5 + j, none⟩ = some (.int .u8 (s.mem.getD j 0)) := HBy.out wr (Kept.refl _) j (by rw [hs.1]; omega)
            go_wp2_with (go_at_call 37; refine (rol11_calls _ _).mono ?_; rintro e w' ⟨rfl, rfl⟩)
            refine ⟨⟨k + 1, j + 1, by have := Hj.out; omega, by omega, ?_, by rw [Int.natCast_add]; rfl, hk⟩, ?_⟩
            · show Value.int _ (step1 (it1 s (h4a s (it8 s (h0a s) (s.n / 8))) (base8 s + 4) k) (s.mem.getD j 0)) = _
              rw [Hj.out]
              rfl
            · simp only [natOf]
              omega
          · obtain rfl : j = s.n := by omega
            obtain rfl : k = s.n - (base8 s + 4) := by have := Hj.out; omega
            go_wp2
            go_ret
            exact ⟨rfl, hk⟩
set_option maxRecDepth 100000 in
set_option maxHeartbeats 4000000 in
theorem sum_long0 (s : St) (hs : s.ok) (ht : 32 ≤ s.tot) (h4 : ¬ base8 s + 4 ≤ s.n) : ∃ r : Int, ∀ (d : Nat) (w : World), Blk w d 194 (enc s) →
    Calls Tryz.prog 26 #[.pointer (some ⟨d, 0, none⟩)] w fun e w' => e = .returned (.int .u64 r) ∧ Kept w w' := by
  have hn := hs.2
  have hb8 := base8_le s
  apply Exists.intro
  case h =>
    intro d w hb
    have HB := Lib.hid hb
    have c0 : w.cell? ⟨d, 0, none⟩ = some (.int .u64 s.v1) := hb.cell 0
    have c1 : w.cell? ⟨d, 1, none⟩ = some (.int .u64 s.v2) := hb.cell 1
    have c2 : w.cell? ⟨d, 2, none⟩ = some (.int .u64 s.v3) := hb.cell 2
    have c3 : w.cell? ⟨d, 3, none⟩ = some (.int .u64 s.v4) := hb.cell 3
    have c4 : w.cell? ⟨d, 4, none⟩ = some (.int .u64 s.tot) := hb.cell 4
    have c37 : w.cell? ⟨d, 37, none⟩ = some (.int .i64 s.n) := (hb.cell 37).trans (enc_n hs.1)
    clear hb
    go_enter Tryz.func26, Tryz.ntmps26
    go_wp2
    go_quiet (fail)
    go_wp2_with (first
      | (go_at_call 27; refine (rol1_calls _ _).mono ?_; rintro e w' ⟨rfl, rfl⟩)
      | (go_at_call 28; refine (rol7_calls _ _).mono ?_; rintro e w' ⟨rfl, rfl⟩)
      | (go_at_call 29; refine (rol12_calls _ _).mono ?_; rintro e w' ⟨rfl, rfl⟩)
      | (go_at_call 30; refine (rol18_calls _ _).mono ?_; rintro e w' ⟨rfl, rfl⟩)
      | (go_at_call 31; refine (merge_calls _ _ _).mono ?_; rintro e w' ⟨rfl, rfl⟩))
    go_quiet (fail)
    go_wp2
    go_loopw [3, 8, 10] (fun t3 t8 _ wr => ∃ (m i : Nat), i = 8 * m ∧ i ≤ s.n ∧ t3 = .int .u64 (it8 s (h0a s) m) ∧ t8 = .int .i64 (i : Int) ∧ Kept w wr) (fun _ t8 _ _ => s.n - natOf t8)
    case atStart =>
      exact ⟨0, 0, rfl, by omega, rfl, rfl, by repeat (first | exact Kept.refl _ | apply Kept.drewN)⟩
    case round =>
      obtain ⟨m, i, hi, h1, rfl, rfl, hk⟩ := hrel
      have Hi := Lib.hid hi
      clear hi
      have HBy := Lib.hid (fun (X : World) (k : Kept wr X) => ((HB.out.kept hk).kept k).mem hs.1)
      by_cases hlt : i + 8 ≤ s.n
      · have hsl := slice_w d i 8 (by omega) (by omega) ((i : Int) + 8) (by omega)
        have HC := Lib.hid (u64_at (HBy.out wr (Kept.refl _)) i (by rw [hs.1]; omega) (32 - i) (by omega) ⟨d, 5 + i, none⟩ rfl)
        go_wp2_with (first
          | (go_at_call 33; refine HC.out.mono ?_; rintro e w' ⟨rfl, hkx⟩)
          | (go_at_call 32; refine (round_calls _ _ _).mono ?_; rintro e w' ⟨rfl, rfl⟩)
          | (go_at_call 34; refine (rol27_calls _ _).mono ?_; rintro e w' ⟨rfl, rfl⟩))
        refine ⟨⟨m + 1, i + 8, by have := Hi.out; omega, hlt, ?_, by rw [Int.natCast_add]; rfl, hk.trans hkx⟩, ?_⟩
        · show Value.int _ (step8 (it8 s (h0a s) m) (le8at s.mem i)) = _
          rw [Hi.out]
          rfl
        · simp only [natOf]
          omega
      · obtain rfl : m = s.n / 8 := by have := Hi.out; omega
        obtain rfl : i = base8 s := Hi.out
        clear hlt
        go_wp2
        go_loopw [3, 8] (fun t3 t8 wr => ∃ (k j : Nat), j = base8 s + k ∧ j ≤ s.n ∧ t3 = .int .u64 (it1 s (it8 s (h0a s) (s.n / 8)) (base8 s) k) ∧ t8 = .int .i64 (j : Int) ∧ Kept w wr) (fun _ t8 _ => s.n - natOf t8)
        case atStart =>
          exact ⟨0, base8 s, rfl, hb8.1, rfl, rfl, hk⟩
        case round =>
          obtain ⟨k, j, hj, h1, rfl, rfl, hk⟩ := hrel
          have Hj := Lib.hid hj
          clear hj
          have HBy := Lib.hid (fun (X : World) (k : Kept wr X) => ((HB.out.kept hk).kept k).mem hs.1)
          by_cases hlt : j < s.n
          · have hc : wr.cell? ⟨d, 5 + j, none⟩ = some (.int .u8 (s.mem.getD j 0)) := HBy.out wr (Kept.refl _) j (by rw [hs.1]; omega)
            go_wp2_with (go_at_call 37; refine (rol11_calls _ _).mono ?_; rintro e w' ⟨rfl, rfl⟩)
            refine ⟨⟨k + 1, j + 1, by have := Hj.out; omega, by omega, ?_, by rw [Int.natCast_add]; rfl, hk⟩, ?_⟩
            · show Value.int _ (step1 (it1 s (it8 s (h0a s) (s.n / 8)) (base8 s) k) (s.mem.getD j 0)) = _
              rw [Hj.out]
              rfl
            · simp only [natOf]
              omega
          · obtain rfl : j = s.n := by omega
            obtain rfl : k = s.n - (base8 s) := by have := Hj.out; omega
            go_wp2
            go_ret
            exact ⟨rfl, hk⟩
set_option maxRecDepth 100000 in
set_option maxHeartbeats 4000000 in
theorem sum_short4 (s : St) (hs : s.ok) (ht : s.tot < 32) (h4 : base8 s + 4 ≤ s.n) : ∃ r : Int, ∀ (d : Nat) (w : World), Blk w d 194 (enc s) →
    Calls Tryz.prog 26 #[.pointer (some ⟨d, 0, none⟩)] w fun e w' => e = .returned (.int .u64 r) ∧ Kept w w' := by
  have hn := hs.2
  have hb8 := base8_le s
  apply Exists.intro
  case h =>
    intro d w hb
    have HB := Lib.hid hb
    have c0 : w.cell? ⟨d, 0, none⟩ = some (.int .u64 s.v1) := hb.cell 0
    have c1 : w.cell? ⟨d, 1, none⟩ = some (.int .u64 s.v2) := hb.cell 1
    have c2 : w.cell? ⟨d, 2, none⟩ = some (.int .u64 s.v3) := hb.cell 2
    have c3 : w.cell? ⟨d, 3, none⟩ = some (.int .u64 s.v4) := hb.cell 3
    have c4 : w.cell? ⟨d, 4, none⟩ = some (.int .u64 s.tot) := hb.cell 4
    have c37 : w.cell? ⟨d, 37, none⟩ = some (.int .i64 s.n) := (hb.cell 37).trans (enc_n hs.1)
    clear hb
    go_enter Tryz.func26, Tryz.ntmps26
    go_wp2
    go_quiet (fail)
    go_wp2
    go_loopw [3, 8, 10] (fun t3 t8 _ wr => ∃ (m i : Nat), i = 8 * m ∧ i ≤ s.n ∧ t3 = .int .u64 (it8 s (h0b s) m) ∧ t8 = .int .i64 (i : Int) ∧ Kept w wr) (fun _ t8 _ _ => s.n - natOf t8)
    case atStart =>
      exact ⟨0, 0, rfl, by omega, rfl, rfl, by repeat (first | exact Kept.refl _ | apply Kept.drewN)⟩
    case round =>
      obtain ⟨m, i, hi, h1, rfl, rfl, hk⟩ := hrel
      have Hi := Lib.hid hi
      clear hi
      have HBy := Lib.hid (fun (X : World) (k : Kept wr X) => ((HB.out.kept hk).kept k).mem hs.1)
      by_cases hlt : i + 8 ≤ s.n
      · have hsl := slice_w d i 8 (by omega) (by omega) ((i : Int) + 8) (by omega)
        have HC := Lib.hid (u64_at (HBy.out wr (Kept.refl _)) i (by rw [hs.1]; omega) (32 - i) (by omega) ⟨d, 5 + i, none⟩ rfl)
        go_wp2_with (first
          | (go_at_call 33; refine HC.out.mono ?_; rintro e w' ⟨rfl, hkx⟩)
          | (go_at_call 32; refine (round_calls _ _ _).mono ?_; rintro e w' ⟨rfl, rfl⟩)
          | (go_at_call 34; refine (rol27_calls _ _).mono ?_; rintro e w' ⟨rfl, rfl⟩))
        refine ⟨⟨m + 1, i + 8, by have := Hi.out; omega, hlt, ?_, by rw [Int.natCast_add]; rfl, hk.trans hkx⟩, ?_⟩
        · show Value.int _ (step8 (it8 s (h0b s) m) (le8at s.mem i)) = _
          rw [Hi.out]
          rfl
        · simp only [natOf]
          omega
      · obtain rfl : m = s.n / 8 := by have := Hi.out; omega
        obtain rfl : i = base8 s := Hi.out
        clear hlt
        have hsl := slice_w d (base8 s) 4 (by omega) (by omega) ((base8 s : Int) + 4) (by omega)
        have HC := Lib.hid (u32_at (HBy.out wr (Kept.refl _)) (base8 s) (by rw [hs.1]; omega) (32 - base8 s) (by omega) ⟨d, 5 + base8 s, none⟩ rfl)
        go_wp2_with (first
          | (go_at_call 35; refine HC.out.mono ?_; rintro e w' ⟨rfl, hkx⟩; have hk2 := hk.trans hkx)
          | (go_at_call 36; refine (rol23_calls _ _).mono ?_; rintro e w' ⟨rfl, rfl⟩))
        go_loopw [3, 8] (fun t3 t8 wr => ∃ (k j : Nat), j = base8 s + 4 + k ∧ j ≤ s.n ∧ t3 = .int .u64 (it1 s (h4a s (it8 s (h0b s) (s.n / 8))) (base8 s + 4) k) ∧ t8 = .int .i64 (j : Int) ∧ Kept w wr) (fun _ t8 _ => s.n - natOf t8)
        case atStart =>
          exact ⟨0, base8 s + 4, rfl, h4, rfl, by rw [Int.natCast_add]; rfl, hk2⟩
        case round =>
          obtain ⟨k, j, hj, h1, rfl, rfl, hk⟩ := hrel
          have Hj := Lib.hid hj
          clear hj
          have HBy := Lib.hid (fun (X : World) (k : Kept wr X) => ((HB.out.kept hk).kept k).mem hs.1)
          by_cases hlt : j < s.n
          · have hc : wr.cell? ⟨d, 5 + j, none⟩ = some (.int .u8 (s.mem.getD j 0)) := HBy.out wr (Kept.refl _) j (by rw [hs.1]; omega)
            go_wp2_with (go_at_call 37; refine (rol11_calls _ _).mono ?_; rintro e w' ⟨rfl, rfl⟩)
            refine ⟨⟨k + 1, j + 1, by have := Hj.out; omega, by omega, ?_, by rw [Int.natCast_add]; rfl, hk⟩, ?_⟩
            · show Value.int _ (step1 (it1 s (h4a s (it8 s (h0b s) (s.n / 8))) (base8 s + 4) k) (s.mem.getD j 0)) = _
              rw [Hj.out]
              rfl
            · simp only [natOf]
              omega
          · obtain rfl : j = s.n := by omega
            obtain rfl : k = s.n - (base8 s + 4) := by have := Hj.out; omega
            go_wp2
            go_ret
            exact ⟨rfl, hk⟩
set_option maxRecDepth 100000 in
set_option maxHeartbeats 4000000 in
theorem sum_short0 (s : St) (hs : s.ok) (ht : s.tot < 32) (h4 : ¬ base8 s + 4 ≤ s.n) : ∃ r : Int, ∀ (d : Nat) (w : World), Blk w d 194 (enc s) →
    Calls Tryz.prog 26 #[.pointer (some ⟨d, 0, none⟩)] w fun e w' => e = .returned (.int .u64 r) ∧ Kept w w' := by
  have hn := hs.2
  have hb8 := base8_le s
  apply Exists.intro
  case h =>
    intro d w hb
    have HB := Lib.hid hb
    have c0 : w.cell? ⟨d, 0, none⟩ = some (.int .u64 s.v1) := hb.cell 0
    have c1 : w.cell? ⟨d, 1, none⟩ = some (.int .u64 s.v2) := hb.cell 1
    have c2 : w.cell? ⟨d, 2, none⟩ = some (.int .u64 s.v3) := hb.cell 2
    have c3 : w.cell? ⟨d, 3, none⟩ = some (.int .u64 s.v4) := hb.cell 3
    have c4 : w.cell? ⟨d, 4, none⟩ = some (.int .u64 s.tot) := hb.cell 4
    have c37 : w.cell? ⟨d, 37, none⟩ = some (.int .i64 s.n) := (hb.cell 37).trans (enc_n hs.1)
    clear hb
    go_enter Tryz.func26, Tryz.ntmps26
    go_wp2
    go_quiet (fail)
    go_wp2
    go_loopw [3, 8, 10] (fun t3 t8 _ wr => ∃ (m i : Nat), i = 8 * m ∧ i ≤ s.n ∧ t3 = .int .u64 (it8 s (h0b s) m) ∧ t8 = .int .i64 (i : Int) ∧ Kept w wr) (fun _ t8 _ _ => s.n - natOf t8)
    case atStart =>
      exact ⟨0, 0, rfl, by omega, rfl, rfl, by repeat (first | exact Kept.refl _ | apply Kept.drewN)⟩
    case round =>
      obtain ⟨m, i, hi, h1, rfl, rfl, hk⟩ := hrel
      have Hi := Lib.hid hi
      clear hi
      have HBy := Lib.hid (fun (X : World) (k : Kept wr X) => ((HB.out.kept hk).kept k).mem hs.1)
      by_cases hlt : i + 8 ≤ s.n
      · have hsl := slice_w d i 8 (by omega) (by omega) ((i : Int) + 8) (by omega)
        have HC := Lib.hid (u64_at (HBy.out wr (Kept.refl _)) i (by rw [hs.1]; omega) (32 - i) (by omega) ⟨d, 5 + i, none⟩ rfl)
        go_wp2_with (first
          | (go_at_call 33; refine HC.out.mono ?_; rintro e w' ⟨rfl, hkx⟩)
          | (go_at_call 32; refine (round_calls _ _ _).mono ?_; rintro e w' ⟨rfl, rfl⟩)
          | (go_at_call 34; refine (rol27_calls _ _).mono ?_; rintro e w' ⟨rfl, rfl⟩))
        refine ⟨⟨m + 1, i + 8, by have := Hi.out; omega, hlt, ?_, by rw [Int.natCast_add]; rfl, hk.trans hkx⟩, ?_⟩
        · show Value.int _ (step8 (it8 s (h0b s) m) (le8at s.mem i)) = _
          rw [Hi.out]
          rfl
        · simp only [natOf]
          omega
      · obtain rfl : m = s.n / 8 := by have := Hi.out; omega
        obtain rfl : i = base8 s := Hi.out
        clear hlt
        go_wp2
        go_loopw [3, 8] (fun t3 t8 wr => ∃ (k j : Nat), j = base8 s + k ∧ j ≤ s.n ∧ t3 = .int .u64 (it1 s (it8 s (h0b s) (s.n / 8)) (base8 s) k) ∧ t8 = .int .i64 (j : Int) ∧ Kept w wr) (fun _ t8 _ => s.n - natOf t8)
        case atStart =>
          exact ⟨0, base8 s, rfl, hb8.1, rfl, rfl, hk⟩
        case round =>
          obtain ⟨k, j, hj, h1, rfl, rfl, hk⟩ := hrel
          have Hj := Lib.hid hj
          clear hj
          have HBy := Lib.hid (fun (X : World) (k : Kept wr X) => ((HB.out.kept hk).kept k).mem hs.1)
          by_cases hlt : j < s.n
          · have hc : wr.cell? ⟨d, 5 + j, none⟩ = some (.int .u8 (s.mem.getD j 0)) := HBy.out wr (Kept.refl _) j (by rw [hs.1]; omega)
            go_wp2_with (go_at_call 37; refine (rol11_calls _ _).mono ?_; rintro e w' ⟨rfl, rfl⟩)
            refine ⟨⟨k + 1, j + 1, by have := Hj.out; omega, by omega, ?_, by rw [Int.natCast_add]; rfl, hk⟩, ?_⟩
            · show Value.int _ (step1 (it1 s (it8 s (h0b s) (s.n / 8)) (base8 s) k) (s.mem.getD j 0)) = _
              rw [Hj.out]
              rfl
            · simp only [natOf]
              omega
          · obtain rfl : j = s.n := by omega
            obtain rfl : k = s.n - (base8 s) := by have := Hj.out; omega
            go_wp2
            go_ret
            exact ⟨rfl, hk⟩
theorem sum64_ex (s : St) (hs : s.ok) : ∃ r : Int, ∀ (d : Nat) (w : World), Blk w d 194 (enc s) →
    Calls Tryz.prog 26 #[.pointer (some ⟨d, 0, none⟩)] w fun e w' => e = .returned (.int .u64 r) ∧ Kept w w' := by
  by_cases ht : 32 ≤ s.tot <;> by_cases h4 : base8 s + 4 ≤ s.n
  · exact sum_long4 s hs ht h4
  · exact sum_long0 s hs ht h4
  · exact sum_short4 s hs (by omega) h4
  · exact sum_short0 s hs (by omega) h4
open Classical in
noncomputable def sum64 (s : St) : Int := if h : s.ok then Classical.choose (sum64_ex s h) else 0
theorem sum64_calls {s : St} (hs : s.ok) {d : Nat} {w : World} (hb : Blk w d 194 (enc s)) :
    Calls Tryz.prog 26 #[.pointer (some ⟨d, 0, none⟩)] w fun e w' => e = .returned (.int .u64 (sum64 s)) ∧ Kept w w' := by
  have := Classical.choose_spec (sum64_ex s hs) d w hb
  unfold sum64
  rw [dif_pos hs]
  exact this
end Go.Proofs.YtgjhmbbbkkidlaaGreatDoor.hash
