/-
  The reader of an escaped text over this seat's program: fed with tokens it gives back their units.
  Conditions: at most 2^30 bytes.
-/
import Derived.Test.YteoeiklojidgnaaFmtRu
import Derived.Deep.CutBlock
namespace Go.Proofs.YteoeiklojidgnaaFmt.ur
open Go.ChangeShapes Go.WideShapes Go.ChangeAt Go.RowKit
open kit uq

def RelJ (w0 : World) (T : List Tok) (t6 t7 : Value) (W : World) : Prop := ∃ (k : Nat) (A : Option Addr) (n c : Nat), k ≤ T.length ∧ t7 = .int .i64 (pos T k : Int) ∧ t6 = .slice A n c ∧ UN w0 W A n c (unitsT (T.take k))
theorem RelJ.next {w0 w2 : World} {T : List Tok} {k p : Nat} {t : Tok} (hk : T[k]? = some t) (hp : pos T k = p) (m : Nat) (hm : t.bytes.length = m) {z : Int} (hz : z = (p : Int) + (m : Int)) {A : Option Addr} {n c : Nat} {M ys : List Int} (hM : M = unitsT (T.take k)) (hy : t.units = ys)
    (hu : UN w0 w2 A n c (M ++ ys)) : RelJ w0 T (.slice A n c) (.int .i64 z) w2 := by
  refine ⟨k + 1, A, n, c, (List.getElem?_eq_some_iff.1 hk).1, ?_, rfl, ?_⟩
  · rw [pos_succ hk, hp, hm, hz]; rfl
  · rw [units_succ hk, hy, ← hM]; exact hu
theorem bytes_range {t : Tok} (h : t.valid) : ∀ b ∈ t.bytes, 0 ≤ b ∧ b < 256 := by
  intro b hb
  cases t <;> simp only [Tok.bytes, Tok.valid, List.mem_cons, List.not_mem_nil, or_false] at h hb
  case hx2 v =>
    have h1 := hexd_range (v / 16) (by omega) (by omega)
    have h2 := hexd_range (v % 16) (by omega) (by omega)
    rcases hb with rfl | rfl | rfl | rfl <;> omega
  case hx4 v =>
    have h1 := hexd_range (v / 4096) (by omega) (by omega)
    have h2 := hexd_range (v / 256 % 16) (by omega) (by omega)
    have h3 := hexd_range (v / 16 % 16) (by omega) (by omega)
    have h4 := hexd_range (v % 16) (by omega) (by omega)
    rcases hb with rfl | rfl | rfl | rfl | rfl | rfl <;> omega
  all_goals omega
theorem bytesT_range {T : List Tok} (h : Ok T) : ∀ b ∈ bytesT T, 0 ≤ b ∧ b < 256 := by
  intro b hb
  obtain ⟨t, ht, hb⟩ := List.mem_flatMap.1 hb
  obtain ⟨k, hk⟩ := List.getElem?_of_mem ht
  exact bytes_range (h k t hk).1 b hb
/-- the digits of a number of two, of four digits -/
def d2 (v : Int) (j : Nat) : Int := if j = 0 then v / 16 % 16 else v % 16
def d4 (v : Int) (j : Nat) : Int := if j = 0 then v / 4096 % 16 else if j = 1 then v / 256 % 16 else if j = 2 then v / 16 % 16 else v % 16
theorem hv2 (v : Int) (h0 : 0 ≤ v) (h1 : v < 256) : hv (d2 v) 2 = v := by simp [hv, d2]; omega
theorem hv4 (v : Int) (h0 : 0 ≤ v) (h1 : v < 65536) : hv (d4 v) 4 = v := by simp [hv, d4]; omega
theorem i32and1023 (x : Int) (h0 : 0 ≤ x) (h1 : x < 1048576) : bits .and .i32 x 1023 = x % 1024 := by
  exact bits_mask .i32 31 (by decide) wraps_i32 10 (by decide) x h0 (by omega)
def Got (w0 : World) (T : List Tok) (e : Ending) (w' : World) : Prop := ∃ A n c, e = .returned (.tuple #[.slice A n c, .bool true]) ∧ UN w0 w' A n c (unitsT T)

set_option maxRecDepth 1000000 in
set_option maxHeartbeats 32000000 in
theorem unescape (w : World) (T : List Tok) (hok : Ok T) (A : Option Addr) (c : Nat) (S : ByteArray) (hs : Str S (bytesT T)) (hl : (bytesT T).length ≤ 1073741824)
    (hcv : ∀ W : World, W = w → (convert 22 9 (.slice A (bytesT T).length c)).run Tryf.prog W = .ok (.string S) W) :
    Calls Tryf.prog 8 #[.slice A (bytesT T).length c] w (Got w T) := by
  have hsz : S.size = (bytesT T).length := hs.1
  have HS := Lib.hid hs
  have HOK := Lib.hid hok
  have hcv2 := hcv w rfl
  clear hs hok hcv
  generalize hn : (bytesT T).length = n at *
  have HN := Lib.hid hn
  clear hn
  go_enter Tryf.func8, Tryf.ntmps8
  go_wp2_with (at_make; refine wp_mk w (Kept.refl w) rfl _ _ rfl (n : Int) n rfl rfl rfl (by omega) ?_)
  intro A0 c0 w0 H0
  go_wp2_with fail
  go_loopw [6, 7] (fun t6 t7 W => RelJ w T t6 t7 W) (fun _ t _ => n - (intOf t).toNat)
  case atStart => exact ⟨0, A0, 0, c0, Nat.zero_le _, rfl, rfl, H0.out⟩
  case round =>
    obtain ⟨k, A1, n1, c1, hk, rfl, rfl, hun⟩ := hrel
    obtain ⟨w1, rfl⟩ : ∃ w1 : World, w1 = wr := ⟨_, rfl⟩
    obtain ⟨M, hM⟩ : ∃ M, M = unitsT (T.take k) := ⟨_, rfl⟩
    rw [← hM] at hun
    have HU := Lib.hid hun
    have HM := Lib.hid hM
    clear H0 hun hcv2
    by_cases hlt : k < T.length
    · obtain ⟨t, ht⟩ : ∃ t, T[k]? = some t := ⟨T[k], by simp [hlt]⟩
      have HT := Lib.hid ht
      have hval := (HOK.out k t ht).1
      have hnul : t = .nul → (bytesT T).length = pos T k + 2 ∨ ∃ b, (bytesT T)[pos T k + 2]? = some b ∧ ¬ (48 ≤ b ∧ b ≤ 57) := fun e => nul_next HOK.out (e ▸ ht)
      have hby := fun j hj => byte_at ht j hj
      have hple := pos_le ht
      have hM1 : M.length ≤ 1073741824 := by
        rw [hM]
        have h1 := units_le (T.take k)
        have h2 : (bytesT (T.take k)).length = pos T k := rfl
        have h3 := HN.out
        omega
      have hMB := Lib.hid hM1
      clear ht hM hk hlt hM1
      rw [HN.out] at hnul hple
      generalize hp : pos T k = p at *
      have HP := Lib.hid hp
      clear hp
      have i0 : (p : Int) < (n : Int) := by have := t.bytes_ne; omega
      cases t
      case raw c =>
        simp only [Tok.valid] at hval
        obtain ⟨v0, v1, v2⟩ := hval
        simp only [Tok.bytes, List.length_cons, List.length_nil] at hple
        have x0 := HS.out.2 p c (by have := hby 0 (by simp [Tok.bytes]); rw [Nat.add_zero] at this; rw [this]; rfl)
        have e0 : (c == 92) = false := by simpa using v2
        have hb0 := hby 0 (by simp [Tok.bytes])
        rw [Nat.add_zero] at hb0
        clear hby hnul
        as_aux_lemma =>
          go_wp2_with fail
          refine (dec1 S _ HS.out p w1 c v0 v1 hb0).mono ?_
          rintro e w' ⟨rfl, hk2⟩
          have HU2 := Lib.hid (HU.out.kept hk2)
          clear hk2
          dsimp only
          go_wp2_with (at_builtin; refine wp_unit w' [c] rfl _ _ rfl A1 n1 c1 _ rfl HU2 1 rfl rfl (by decide) (by decide) ?_)
          intro A2 n2 c2 w2 H2
          have HR : Hid (RelJ w T (.slice A2 n2 c2) (.int .i64 ((p : Int) + 1)) w2) := Lib.hid (RelJ.next HT.out HP.out 1 rfl (rfl) HM.out rfl (H2.out (by have := hMB.out; omega)))
          clear HU
          go_wp2_with fail
          go_roundw
          case rel => first | exact HR.out | ((repeat apply Exists.intro); exact ⟨HR.out, rfl⟩)
          case measure => simp [intOf]; omega
      case u2 c =>
        simp only [Tok.valid] at hval
        obtain ⟨v0, v1⟩ := hval
        simp only [Tok.bytes, List.length_cons, List.length_nil] at hple
        have x0 := HS.out.2 p (192 + c / 64) (by have := hby 0 (by simp [Tok.bytes]); rw [Nat.add_zero] at this; rw [this]; rfl)
        have e0 : (192 + c / 64 == 92) = false := by simp; omega
        have hb0 := hby 0 (by simp [Tok.bytes])
        rw [Nat.add_zero] at hb0
        have hb1 := hby 1 (by simp [Tok.bytes])
        have HDC := Lib.hid (dec2 S _ HS.out p w1 c v0 v1 hb0 hb1 (by rw [HN.out]; omega))
        clear hby hnul hb0 hb1
        generalize 192 + c / 64 = b0 at *
        as_aux_lemma =>
          go_wp2_with fail
          refine HDC.out.mono ?_
          rintro e w' ⟨rfl, hk2⟩
          have HU2 := Lib.hid (HU.out.kept hk2)
          clear hk2
          dsimp only
          go_wp2_with (at_builtin; refine wp_unit w' [c] rfl _ _ rfl A1 n1 c1 _ rfl HU2 1 rfl rfl (by decide) (by decide) ?_)
          intro A2 n2 c2 w2 H2
          have HR : Hid (RelJ w T (.slice A2 n2 c2) (.int .i64 ((p : Int) + 2)) w2) := Lib.hid (RelJ.next HT.out HP.out 2 rfl (rfl) HM.out rfl (H2.out (by have := hMB.out; omega)))
          clear HU
          go_wp2_with fail
          go_roundw
          case rel => first | exact HR.out | ((repeat apply Exists.intro); exact ⟨HR.out, rfl⟩)
          case measure => simp [intOf]; omega
      case u3 c =>
        simp only [Tok.valid] at hval
        obtain ⟨v0, v1, v2⟩ := hval
        simp only [Tok.bytes, List.length_cons, List.length_nil] at hple
        have x0 := HS.out.2 p (224 + c / 4096) (by have := hby 0 (by simp [Tok.bytes]); rw [Nat.add_zero] at this; rw [this]; rfl)
        have e0 : (224 + c / 4096 == 92) = false := by simp; omega
        have hb0 := hby 0 (by simp [Tok.bytes])
        rw [Nat.add_zero] at hb0
        have hb1 := hby 1 (by simp [Tok.bytes])
        have hb2 := hby 2 (by simp [Tok.bytes])
        have HDC := Lib.hid (dec3 S _ HS.out p w1 c v0 v1 v2 hb0 hb1 hb2 (by rw [HN.out]; omega))
        clear hby hnul hb0 hb1 hb2 v2
        generalize 224 + c / 4096 = b0 at *
        as_aux_lemma =>
          go_wp2_with fail
          refine HDC.out.mono ?_
          rintro e w' ⟨rfl, hk2⟩
          have HU2 := Lib.hid (HU.out.kept hk2)
          clear hk2
          dsimp only
          go_wp2_with (at_builtin; refine wp_unit w' [c] rfl _ _ rfl A1 n1 c1 _ rfl HU2 1 rfl rfl (by decide) (by decide) ?_)
          intro A2 n2 c2 w2 H2
          have HR : Hid (RelJ w T (.slice A2 n2 c2) (.int .i64 ((p : Int) + 3)) w2) := Lib.hid (RelJ.next HT.out HP.out 3 rfl (rfl) HM.out rfl (H2.out (by have := hMB.out; omega)))
          clear HU
          go_wp2_with fail
          go_roundw
          case rel => first | exact HR.out | ((repeat apply Exists.intro); exact ⟨HR.out, rfl⟩)
          case measure => simp [intOf]; omega
      case u4 c =>
        simp only [Tok.valid] at hval
        obtain ⟨v0, v1⟩ := hval
        simp only [Tok.bytes, List.length_cons, List.length_nil] at hple
        have x0 := HS.out.2 p (240 + c / 262144) (by have := hby 0 (by simp [Tok.bytes]); rw [Nat.add_zero] at this; rw [this]; rfl)
        have e0 : (240 + c / 262144 == 92) = false := by simp; omega
        have hb0 := hby 0 (by simp [Tok.bytes])
        rw [Nat.add_zero] at hb0
        have hb1 := hby 1 (by simp [Tok.bytes])
        have hb2 := hby 2 (by simp [Tok.bytes])
        have hb3 := hby 3 (by simp [Tok.bytes])
        have HDC := Lib.hid (dec4 S _ HS.out p w1 c v0 v1 hb0 hb1 hb2 hb3 (by rw [HN.out]; omega))
        have ha := i32and1023 (c - 65536) (by omega) (by omega)
        clear hby hnul hb0 hb1 hb2 hb3
        generalize 240 + c / 262144 = b0 at *
        as_aux_lemma =>
          go_wp2_with fail
          refine HDC.out.mono ?_
          rintro e w' ⟨rfl, hk2⟩
          have HU2 := Lib.hid (HU.out.kept hk2)
          clear hk2
          dsimp only
          go_wp2_with (at_builtin; refine wp_unit w' [55296 + (c - 65536) / 1024, 56320 + (c - 65536) % 1024] rfl _ _ rfl A1 n1 c1 _ rfl HU2 2 rfl rfl (by decide) (by decide) ?_)
          intro A2 n2 c2 w2 H2
          have HR : Hid (RelJ w T (.slice A2 n2 c2) (.int .i64 ((p : Int) + 4)) w2) := Lib.hid (RelJ.next HT.out HP.out 4 rfl (rfl) HM.out rfl (H2.out (by have := hMB.out; omega)))
          clear HU
          go_wp2_with fail
          go_roundw
          case rel => first | exact HR.out | ((repeat apply Exists.intro); exact ⟨HR.out, rfl⟩)
          case measure => simp [intOf]; omega
      case nul =>
        simp only [Tok.bytes, List.length_cons, List.length_nil] at hple
        have x0 := HS.out.2 p 92 (by have := hby 0 (by simp [Tok.bytes]); rw [Nat.add_zero] at this; rw [this]; rfl)
        have x1 := HS.out.2 (p + 1) 48 (by rw [hby 1 (by simp [Tok.bytes])]; rfl)
        rw [show ((p + 1 : Nat) : Int) = (p : Int) + 1 from rfl] at x1
        have i1 : (p : Int) + 1 < (n : Int) := by omega
        clear hby hval
        rcases hnul rfl with he | ⟨b, hb, hnd⟩
        · have i2 : ¬ (p : Int) + 2 < (n : Int) := by omega
          clear hnul he
          as_aux_lemma =>
            go_wp2_with (at_builtin; refine wp_unit w1 [0] rfl _ _ rfl A1 n1 c1 _ rfl HU 1 rfl rfl (by decide) (by decide) ?_)
            intro A2 n2 c2 w2 H2
            have HR : Hid (RelJ w T (.slice A2 n2 c2) (.int .i64 ((p : Int) + 2)) w2) := Lib.hid (RelJ.next HT.out HP.out 2 rfl (rfl) HM.out rfl (H2.out (by have := hMB.out; omega)))
            clear HU
            go_wp2_with fail
            go_roundw
            case rel => first | exact HR.out | ((repeat apply Exists.intro); exact ⟨HR.out, rfl⟩)
            case measure => simp [intOf]; omega
        · have hlt2 : p + 2 < n := by rw [← HN.out]; exact (List.getElem?_eq_some_iff.1 hb).1
          have i2 : (p : Int) + 2 < (n : Int) := by omega
          have x2 := HS.out.2 (p + 2) b hb
          rw [show ((p + 2 : Nat) : Int) = (p : Int) + 2 from rfl] at x2
          clear hb hnul
          by_cases h48 : 48 ≤ b
          · have h57 : ¬ b ≤ 57 := by omega
            as_aux_lemma =>
              go_wp2_with (at_builtin; refine wp_unit w1 [0] rfl _ _ rfl A1 n1 c1 _ rfl HU 1 rfl rfl (by decide) (by decide) ?_)
              intro A2 n2 c2 w2 H2
              have HR : Hid (RelJ w T (.slice A2 n2 c2) (.int .i64 ((p : Int) + 2)) w2) := Lib.hid (RelJ.next HT.out HP.out 2 rfl (rfl) HM.out rfl (H2.out (by have := hMB.out; omega)))
              clear HU
              go_wp2_with fail
              go_roundw
              case rel => first | exact HR.out | ((repeat apply Exists.intro); exact ⟨HR.out, rfl⟩)
              case measure => simp [intOf]; omega
          · skip
            as_aux_lemma =>
              go_wp2_with (at_builtin; refine wp_unit w1 [0] rfl _ _ rfl A1 n1 c1 _ rfl HU 1 rfl rfl (by decide) (by decide) ?_)
              intro A2 n2 c2 w2 H2
              have HR : Hid (RelJ w T (.slice A2 n2 c2) (.int .i64 ((p : Int) + 2)) w2) := Lib.hid (RelJ.next HT.out HP.out 2 rfl (rfl) HM.out rfl (H2.out (by have := hMB.out; omega)))
              clear HU
              go_wp2_with fail
              go_roundw
              case rel => first | exact HR.out | ((repeat apply Exists.intro); exact ⟨HR.out, rfl⟩)
              case measure => simp [intOf]; omega
      case esc e u =>
        simp only [Tok.valid] at hval
        simp only [Tok.bytes, List.length_cons, List.length_nil] at hple
        have x0 := HS.out.2 p 92 (by have := hby 0 (by simp [Tok.bytes]); rw [Nat.add_zero] at this; rw [this]; rfl)
        have x1 := HS.out.2 (p + 1) e (by rw [hby 1 (by simp [Tok.bytes])]; rfl)
        rw [show ((p + 1 : Nat) : Int) = (p : Int) + 1 from rfl] at x1
        have i1 : (p : Int) + 1 < (n : Int) := by omega
        clear hby hnul
        rcases hval with ⟨rfl, rfl⟩ | ⟨rfl, rfl⟩ | ⟨rfl, rfl⟩ | ⟨rfl, rfl⟩ | ⟨rfl, rfl⟩ | ⟨rfl, h⟩
        · skip
          as_aux_lemma =>
            go_wp2_with (at_builtin; refine wp_unit w1 [8] rfl _ _ rfl A1 n1 c1 _ rfl HU 1 rfl rfl (by decide) (by decide) ?_)
            intro A2 n2 c2 w2 H2
            have HR : Hid (RelJ w T (.slice A2 n2 c2) (.int .i64 ((p : Int) + 2)) w2) := Lib.hid (RelJ.next HT.out HP.out 2 rfl (rfl) HM.out rfl (H2.out (by have := hMB.out; omega)))
            clear HU
            go_wp2_with fail
            go_roundw
            case rel => first | exact HR.out | ((repeat apply Exists.intro); exact ⟨HR.out, rfl⟩)
            case measure => simp [intOf]; omega
        · skip
          as_aux_lemma =>
            go_wp2_with (at_builtin; refine wp_unit w1 [12] rfl _ _ rfl A1 n1 c1 _ rfl HU 1 rfl rfl (by decide) (by decide) ?_)
            intro A2 n2 c2 w2 H2
            have HR : Hid (RelJ w T (.slice A2 n2 c2) (.int .i64 ((p : Int) + 2)) w2) := Lib.hid (RelJ.next HT.out HP.out 2 rfl (rfl) HM.out rfl (H2.out (by have := hMB.out; omega)))
            clear HU
            go_wp2_with fail
            go_roundw
            case rel => first | exact HR.out | ((repeat apply Exists.intro); exact ⟨HR.out, rfl⟩)
            case measure => simp [intOf]; omega
        · skip
          as_aux_lemma =>
            go_wp2_with (at_builtin; refine wp_unit w1 [10] rfl _ _ rfl A1 n1 c1 _ rfl HU 1 rfl rfl (by decide) (by decide) ?_)
            intro A2 n2 c2 w2 H2
            have HR : Hid (RelJ w T (.slice A2 n2 c2) (.int .i64 ((p : Int) + 2)) w2) := Lib.hid (RelJ.next HT.out HP.out 2 rfl (rfl) HM.out rfl (H2.out (by have := hMB.out; omega)))
            clear HU
            go_wp2_with fail
            go_roundw
            case rel => first | exact HR.out | ((repeat apply Exists.intro); exact ⟨HR.out, rfl⟩)
            case measure => simp [intOf]; omega
        · skip
          as_aux_lemma =>
            go_wp2_with (at_builtin; refine wp_unit w1 [13] rfl _ _ rfl A1 n1 c1 _ rfl HU 1 rfl rfl (by decide) (by decide) ?_)
            intro A2 n2 c2 w2 H2
            have HR : Hid (RelJ w T (.slice A2 n2 c2) (.int .i64 ((p : Int) + 2)) w2) := Lib.hid (RelJ.next HT.out HP.out 2 rfl (rfl) HM.out rfl (H2.out (by have := hMB.out; omega)))
            clear HU
            go_wp2_with fail
            go_roundw
            case rel => first | exact HR.out | ((repeat apply Exists.intro); exact ⟨HR.out, rfl⟩)
            case measure => simp [intOf]; omega
        · skip
          as_aux_lemma =>
            go_wp2_with (at_builtin; refine wp_unit w1 [11] rfl _ _ rfl A1 n1 c1 _ rfl HU 1 rfl rfl (by decide) (by decide) ?_)
            intro A2 n2 c2 w2 H2
            have HR : Hid (RelJ w T (.slice A2 n2 c2) (.int .i64 ((p : Int) + 2)) w2) := Lib.hid (RelJ.next HT.out HP.out 2 rfl (rfl) HM.out rfl (H2.out (by have := hMB.out; omega)))
            clear HU
            go_wp2_with fail
            go_roundw
            case rel => first | exact HR.out | ((repeat apply Exists.intro); exact ⟨HR.out, rfl⟩)
            case measure => simp [intOf]; omega
        rcases h with rfl | rfl | rfl | rfl | rfl | rfl
        · skip
          as_aux_lemma =>
            go_wp2_with (at_builtin; refine wp_unit w1 [92] rfl _ _ rfl A1 n1 c1 _ rfl HU 1 rfl rfl (by decide) (by decide) ?_)
            intro A2 n2 c2 w2 H2
            have HR : Hid (RelJ w T (.slice A2 n2 c2) (.int .i64 ((p : Int) + 2)) w2) := Lib.hid (RelJ.next HT.out HP.out 2 rfl (rfl) HM.out rfl (H2.out (by have := hMB.out; omega)))
            clear HU
            go_wp2_with fail
            go_roundw
            case rel => first | exact HR.out | ((repeat apply Exists.intro); exact ⟨HR.out, rfl⟩)
            case measure => simp [intOf]; omega
        · skip
          as_aux_lemma =>
            go_wp2_with (at_builtin; refine wp_unit w1 [47] rfl _ _ rfl A1 n1 c1 _ rfl HU 1 rfl rfl (by decide) (by decide) ?_)
            intro A2 n2 c2 w2 H2
            have HR : Hid (RelJ w T (.slice A2 n2 c2) (.int .i64 ((p : Int) + 2)) w2) := Lib.hid (RelJ.next HT.out HP.out 2 rfl (rfl) HM.out rfl (H2.out (by have := hMB.out; omega)))
            clear HU
            go_wp2_with fail
            go_roundw
            case rel => first | exact HR.out | ((repeat apply Exists.intro); exact ⟨HR.out, rfl⟩)
            case measure => simp [intOf]; omega
        · skip
          as_aux_lemma =>
            go_wp2_with (at_builtin; refine wp_unit w1 [39] rfl _ _ rfl A1 n1 c1 _ rfl HU 1 rfl rfl (by decide) (by decide) ?_)
            intro A2 n2 c2 w2 H2
            have HR : Hid (RelJ w T (.slice A2 n2 c2) (.int .i64 ((p : Int) + 2)) w2) := Lib.hid (RelJ.next HT.out HP.out 2 rfl (rfl) HM.out rfl (H2.out (by have := hMB.out; omega)))
            clear HU
            go_wp2_with fail
            go_roundw
            case rel => first | exact HR.out | ((repeat apply Exists.intro); exact ⟨HR.out, rfl⟩)
            case measure => simp [intOf]; omega
        · skip
          as_aux_lemma =>
            go_wp2_with (at_builtin; refine wp_unit w1 [34] rfl _ _ rfl A1 n1 c1 _ rfl HU 1 rfl rfl (by decide) (by decide) ?_)
            intro A2 n2 c2 w2 H2
            have HR : Hid (RelJ w T (.slice A2 n2 c2) (.int .i64 ((p : Int) + 2)) w2) := Lib.hid (RelJ.next HT.out HP.out 2 rfl (rfl) HM.out rfl (H2.out (by have := hMB.out; omega)))
            clear HU
            go_wp2_with fail
            go_roundw
            case rel => first | exact HR.out | ((repeat apply Exists.intro); exact ⟨HR.out, rfl⟩)
            case measure => simp [intOf]; omega
        · skip
          as_aux_lemma =>
            go_wp2_with (at_builtin; refine wp_unit w1 [96] rfl _ _ rfl A1 n1 c1 _ rfl HU 1 rfl rfl (by decide) (by decide) ?_)
            intro A2 n2 c2 w2 H2
            have HR : Hid (RelJ w T (.slice A2 n2 c2) (.int .i64 ((p : Int) + 2)) w2) := Lib.hid (RelJ.next HT.out HP.out 2 rfl (rfl) HM.out rfl (H2.out (by have := hMB.out; omega)))
            clear HU
            go_wp2_with fail
            go_roundw
            case rel => first | exact HR.out | ((repeat apply Exists.intro); exact ⟨HR.out, rfl⟩)
            case measure => simp [intOf]; omega
        · skip
          as_aux_lemma =>
            go_wp2_with (at_builtin; refine wp_unit w1 [36] rfl _ _ rfl A1 n1 c1 _ rfl HU 1 rfl rfl (by decide) (by decide) ?_)
            intro A2 n2 c2 w2 H2
            have HR : Hid (RelJ w T (.slice A2 n2 c2) (.int .i64 ((p : Int) + 2)) w2) := Lib.hid (RelJ.next HT.out HP.out 2 rfl (rfl) HM.out rfl (H2.out (by have := hMB.out; omega)))
            clear HU
            go_wp2_with fail
            go_roundw
            case rel => first | exact HR.out | ((repeat apply Exists.intro); exact ⟨HR.out, rfl⟩)
            case measure => simp [intOf]; omega
      case cont =>
        simp only [Tok.bytes, List.length_cons, List.length_nil] at hple
        have x0 := HS.out.2 p 92 (by have := hby 0 (by simp [Tok.bytes]); rw [Nat.add_zero] at this; rw [this]; rfl)
        have x1 := HS.out.2 (p + 1) 10 (by rw [hby 1 (by simp [Tok.bytes])]; rfl)
        rw [show ((p + 1 : Nat) : Int) = (p : Int) + 1 from rfl] at x1
        have i1 : (p : Int) + 1 < (n : Int) := by omega
        clear hby hnul hval
        as_aux_lemma =>
          have HR : Hid (RelJ w T (.slice A1 n1 c1) (.int .i64 ((p : Int) + 2)) w1) := Lib.hid (RelJ.next HT.out HP.out 2 rfl (rfl) HM.out rfl (by show UN _ _ _ _ _ (M ++ []); rw [List.append_nil]; exact HU.out))
          clear HU
          go_wp2_with fail
          go_roundw
          case rel => first | exact HR.out | ((repeat apply Exists.intro); exact ⟨HR.out, rfl⟩)
          case measure => simp [intOf]; omega
      case hx2 v =>
        simp only [Tok.valid] at hval
        obtain ⟨v0, v1⟩ := hval
        simp only [Tok.bytes, List.length_cons, List.length_nil] at hple
        have x0 := HS.out.2 p 92 (by have := hby 0 (by simp [Tok.bytes]); rw [Nat.add_zero] at this; rw [this]; rfl)
        have x1 := HS.out.2 (p + 1) 120 (by rw [hby 1 (by simp [Tok.bytes])]; rfl)
        rw [show ((p + 1 : Nat) : Int) = (p : Int) + 1 from rfl] at x1
        have i1 : (p : Int) + 1 < (n : Int) := by omega
        have HC : Hid (∀ W : World, Calls Tryf.prog 13 #[.string S, .int .i64 ((p : Int) + 2), .int .i64 2] W fun e w' => e = .returned (.tuple #[.int .u32 v, .bool true]) ∧ W = w') := Lib.hid (fun W => by
          have h := hexN S _ HS.out (p + 2) 2 (d2 v) (fun j => by unfold d2; (repeat' split) <;> omega) (fun j hj => by
            have hq := hby (j + 2) (by simp [Tok.bytes]; omega)
            rw [show p + 2 + j = p + (j + 2) by omega, hq]
            rcases (by omega : j = 0 ∨ j = 1) with rfl | rfl
            · simp [Tok.bytes, d2]; rw [show v / 16 % 16 = v / 16 by omega]
            · simp [Tok.bytes, d2]) (by omega) (by rw [HN.out]; omega) (by rw [HN.out]; omega) W
          rw [hv2 v v0 v1] at h
          exact h)
        clear hby hnul
        as_aux_lemma =>
          go_wp2_with fail
          refine (HC.out w1).mono ?_
          rintro e w' ⟨rfl, rfl⟩
          dsimp only
          go_wp2_with (at_builtin; refine wp_unit w1 [v] rfl _ _ rfl A1 n1 c1 _ rfl HU 1 rfl rfl (by decide) (by decide) ?_)
          intro A2 n2 c2 w2 H2
          have HR : Hid (RelJ w T (.slice A2 n2 c2) (.int .i64 ((p : Int) + 2 + 2)) w2) := Lib.hid (RelJ.next HT.out HP.out 4 rfl (by omega) HM.out rfl (H2.out (by have := hMB.out; omega)))
          clear HU
          go_wp2_with fail
          go_roundw
          case rel => first | exact HR.out | ((repeat apply Exists.intro); exact ⟨HR.out, rfl⟩)
          case measure => simp [intOf]; omega
      case hx4 v =>
        simp only [Tok.valid] at hval
        obtain ⟨v0, v1⟩ := hval
        simp only [Tok.bytes, List.length_cons, List.length_nil] at hple
        have x0 := HS.out.2 p 92 (by have := hby 0 (by simp [Tok.bytes]); rw [Nat.add_zero] at this; rw [this]; rfl)
        have x1 := HS.out.2 (p + 1) 117 (by rw [hby 1 (by simp [Tok.bytes])]; rfl)
        rw [show ((p + 1 : Nat) : Int) = (p : Int) + 1 from rfl] at x1
        have i1 : (p : Int) + 1 < (n : Int) := by omega
        have HC : Hid (∀ W : World, Calls Tryf.prog 13 #[.string S, .int .i64 ((p : Int) + 2), .int .i64 4] W fun e w' => e = .returned (.tuple #[.int .u32 v, .bool true]) ∧ W = w') := Lib.hid (fun W => by
          have h := hexN S _ HS.out (p + 2) 4 (d4 v) (fun j => by unfold d4; (repeat' split) <;> omega) (fun j hj => by
            have hq := hby (j + 2) (by simp [Tok.bytes]; omega)
            rw [show p + 2 + j = p + (j + 2) by omega, hq]
            rcases (by omega : j = 0 ∨ j = 1 ∨ j = 2 ∨ j = 3) with rfl | rfl | rfl | rfl
            · simp [Tok.bytes, d4]; rw [show v / 4096 % 16 = v / 4096 by omega]
            · simp [Tok.bytes, d4]
            · simp [Tok.bytes, d4]
            · simp [Tok.bytes, d4]) (by omega) (by rw [HN.out]; omega) (by rw [HN.out]; omega) W
          rw [hv4 v v0 v1] at h
          exact h)
        clear hby hnul
        as_aux_lemma =>
          go_wp2_with fail
          refine (HC.out w1).mono ?_
          rintro e w' ⟨rfl, rfl⟩
          dsimp only
          go_wp2_with (at_builtin; refine wp_unit w1 [v] rfl _ _ rfl A1 n1 c1 _ rfl HU 1 rfl rfl (by decide) (by decide) ?_)
          intro A2 n2 c2 w2 H2
          have HR : Hid (RelJ w T (.slice A2 n2 c2) (.int .i64 ((p : Int) + 2 + 4)) w2) := Lib.hid (RelJ.next HT.out HP.out 6 rfl (by omega) HM.out rfl (H2.out (by have := hMB.out; omega)))
          clear HU
          go_wp2_with fail
          go_roundw
          case rel => first | exact HR.out | ((repeat apply Exists.intro); exact ⟨HR.out, rfl⟩)
          case measure => simp [intOf]; omega
    · obtain rfl : k = T.length := by omega
      have HR : Hid (UN w w1 A1 n1 c1 (unitsT T)) := Lib.hid (by have := HU.out; rw [hM, List.take_length] at this; exact this)
      have i0 : ¬ (pos T T.length : Int) < (n : Int) := by rw [pos_end (Nat.le_refl _), HN.out]; omega
      clear HU HM hM
      generalize pos T T.length = p at *
      as_aux_lemma =>
        go_wp2_with fail
        go_ret2
        exact ⟨A1, n1, c1, rfl, HR.out⟩
end Go.Proofs.YteoeiklojidgnaaFmt.ur
