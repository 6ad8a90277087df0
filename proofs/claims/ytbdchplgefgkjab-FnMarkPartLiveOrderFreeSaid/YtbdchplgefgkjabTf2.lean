/-
  tsBytes, tsDepOK and tsAllValid over this seat's program.
  Conditions: the files are readable.
-/
import Derived.Test.YtbdchplgefgkjabTf
namespace Go.Proofs.Ytbdchplgefgkjab.tm
open Go.ChangeShapes Go.WideShapes Go.ChangeAt Go.RowKit
open kit dfs

def Lens8 (F : Ct) (x k : Nat) : Prop := ∀ i, i < k → np F i * 8 ≤ x ∧ ∀ p, p < np F i → (deps F i p).length * 8 ≤ x
theorem Lens8.mono {F : Ct} {x y k : Nat} (h : Lens8 F x k) (hx : x ≤ y) : Lens8 F y k := fun i hi => ⟨by have := (h i hi).1; omega, fun p hp => by have := (h i hi).2 p hp; omega⟩
theorem Lens8.step {F : Ct} {x k : Nat} (h : Lens8 F x k) (h1 : np F k * 8 ≤ x) (h2 : ∀ p, p < np F k → (deps F k p).length * 8 ≤ x) : Lens8 F x (k + 1) := fun i hi => by
  by_cases e : i = k
  · rw [e]; exact ⟨h1, h2⟩
  · exact h i (by omega)
/-- the number of dependencies of the first j parts of file k; the number of parts and dependencies of the first k files -/
def dsum (F : Ct) (k : Nat) : Nat → Nat
  | 0 => 0
  | j + 1 => dsum F k j + (deps F k j).length
def tot (F : Ct) : Nat → Nat
  | 0 => 0
  | k + 1 => tot F k + np F k + dsum F k (np F k)
def SizeI (w : World) (n : Nat) (F : Ct) (e : Ending) (w' : World) : Prop := (∃ x : Int, e = .returned (.int .i64 x) ∧ (x ≤ 1048576 → n ≤ 131072 ∧ Lens F 131072 n ∧ tot F n ≤ 131072)) ∧ w = w'
def A5 (n : Nat) (F : Ct) (t3 t4 : Value) : Prop := ∃ (k x : Nat), k ≤ n ∧ t4 = .int .i64 (k : Int) ∧ t3 = .int .i64 (x : Int) ∧ x ≤ 1048576 ∧ Hid (Lens8 F x k ∧ tot F k * 8 ≤ x)
def B5 (F : Ct) (k : Nat) (t3 t5 : Value) : Prop := ∃ (j x : Nat), j ≤ np F k ∧ t5 = .int .i64 (j : Int) ∧ t3 = .int .i64 (x : Int) ∧ x ≤ 1048576 ∧ Hid ((Lens8 F x k ∧ (tot F k + np F k + dsum F k j) * 8 ≤ x) ∧ np F k * 8 ≤ x ∧ ∀ p, p < j → (deps F k p).length * 8 ≤ x)

set_option maxRecDepth 100000 in
set_option maxHeartbeats 8000000 in
theorem size (w : World) (a : Option Addr) (n c : Nat) (F : Ct) (h : FilesC w a n F) (hn : n ≤ 1048576) (hl : Lens F 1048576 n) :
    Calls Try.prog 5 #[.slice a n c] w (SizeI w n F) := by
  have HF := Lib.hid h
  have HL := Lib.hid hl
  clear h hl
  by_cases hn2 : n ≤ 131072
  · go_enter Try.func5, Try.ntmps5
    go_wp2_with fail
    go_loop [3, 4] (fun t3 t4 => A5 n F t3 t4) (fun _ t4 => n - (intOf t4).toNat)
    case atStart => exact ⟨0, 8 * n, by omega, rfl, by go_num, by omega, Lib.hid ⟨fun i hi => absurd hi (by omega), by simp [tot]⟩⟩
    case round =>
      obtain ⟨k, x, hk, rfl, rfl, hx, HX⟩ := hrel
      by_cases hlt : k < n
      · obtain ⟨b, off, pa, pc, rfl, _, c0, hpc, hpm, _, hP⟩ := HF.out.at_ hlt
        have HP := Lib.hid hP
        have k0 : (k : Int) < (n : Int) := by omega
        have hnp : np F k ≤ 1048576 := (HL.out k hlt).1
        have HLk := Lib.hid (HL.out k hlt).2
        clear hP
        generalize hmk : np F k = m at *
        have HMK := Lib.hid hmk
        clear hmk
        go_wp2_with fail
        · rename_i hbig
          go_ret
          exact ⟨⟨_, rfl, fun h => absurd h (by omega)⟩, rfl⟩
        · have hx2 : x + 8 * m ≤ 1048576 := by omega
          have HB0 : Hid (B5 F k (.int .i64 ((x : Int) + 8 * (m : Int))) (.int .i64 0)) := Lib.hid ⟨0, x + 8 * m, Nat.zero_le _, rfl, by go_num, hx2, Lib.hid ⟨⟨HX.out.1.mono (by omega), by have := HX.out.2; simp only [dsum]; rw [HMK.out]; omega⟩, by rw [HMK.out]; omega, fun p hp => absurd hp (by omega)⟩⟩
          clear HX
          go_loop [3, 5] (fun t3 t5 => B5 F k t3 t5) (fun _ t5 => m - (intOf t5).toNat)
          case atStart => exact HB0.out
          case round =>
            obtain ⟨j, y, hj, rfl, rfl, hy, HJ⟩ := hrel
            clear HB0
            rw [HMK.out] at hj
            by_cases hlt2 : j < m
            · obtain ⟨b2, off2, da, dc, rfl, _, c1, c2, hd1, hd2, _, _⟩ := part_at HP.out (p := j) (by rw [HMK.out]; exact hlt2)
              have j0 : (j : Int) < (m : Int) := by omega
              have hd3 : (deps F k j).length ≤ 1048576 := HLk.out j hlt2
              have HJ2 : Hid ((Lens8 F (y + 8 * (deps F k j).length) k ∧ (tot F k + np F k + dsum F k (j + 1)) * 8 ≤ y + 8 * (deps F k j).length) ∧ np F k * 8 ≤ y + 8 * (deps F k j).length ∧ ∀ p, p < j + 1 → (deps F k p).length * 8 ≤ y + 8 * (deps F k j).length) := Lib.hid ⟨⟨HJ.out.1.1.mono (by omega), by have := HJ.out.1.2; simp only [dsum]; omega⟩, by have := HJ.out.2.1; omega, fun p hp => by
                by_cases e : p = j
                · rw [e]; omega
                · have := HJ.out.2.2 p (by omega); omega⟩
              clear HJ
              generalize (deps F k j).length = l at *
              go_wp2_with fail
              · go_ret
                exact ⟨⟨_, rfl, fun h => absurd h (by omega)⟩, rfl⟩
              · go_round
                case rel => exact ⟨j + 1, y + 8 * l, by rw [HMK.out]; omega, by go_num, by go_num, by omega, HJ2⟩
                case measure => simp [intOf]; omega
            · obtain rfl : j = m := by omega
              have HN2 : Hid (Lens8 F y (k + 1) ∧ tot F (k + 1) * 8 ≤ y) := Lib.hid ⟨HJ.out.1.1.step HJ.out.2.1 (by rw [HMK.out]; exact HJ.out.2.2), by have := HJ.out.1.2; simp only [tot]; rw [HMK.out] at this ⊢; exact this⟩
              clear HJ
              go_wp2_with fail
              go_round
              case rel => exact ⟨k + 1, y, by omega, by go_num, rfl, hy, HN2⟩
              case measure => simp [intOf]; omega
      · obtain rfl : n = k := by omega
        go_wp2_with fail
        go_ret
        exact ⟨⟨_, rfl, fun _ => ⟨hn2, fun i hi => ⟨by have := (HX.out.1 i hi).1; omega, fun p hp => by have := (HX.out.1 i hi).2 p hp; omega⟩, by have := HX.out.2; omega⟩⟩, rfl⟩
  · go_enter Try.func5, Try.ntmps5
    go_wp2_with fail
    go_ret
    exact ⟨⟨_, rfl, fun h => absurd h (by omega)⟩, rfl⟩

/-- does a dependency name a part that is there? -/
def okB (n : Nat) (F : Ct) (x y : Nat) : Bool := decide (x < n ∧ y < np F x)
def OkB (w : World) (n : Nat) (F : Ct) (x y : Nat) (e : Ending) (w' : World) : Prop := e = .returned (.bool (okB n F x y)) ∧ Kept w w'
set_option maxRecDepth 100000 in
set_option maxHeartbeats 8000000 in
theorem depOK (w : World) (a : Option Addr) (n c : Nat) (F : Ct) (x y : Nat) (h : FilesC w a n F) (hn : n ≤ 131072) (hl : Lens F 131072 n) (hx : x ≤ 4294967295) (hy : y ≤ 4294967295) :
    Calls Try.prog 7 #[.slice a n c, .agg #[.int .u32 (x : Int), .int .u32 (y : Int)]] w (OkB w n F x y) := by
  have HK := Lib.hid ((Kept.refl w).alloc (.cells #[.int .u32 (x : Int), .int .u32 (y : Int)] 25))
  have W1 : IntKind.u64.wrap (x : Int) = (x : Int) := by rw [IntKind.wrap_u64]; omega
  have W2 : IntKind.u64.wrap (y : Int) = (y : Int) := by rw [IntKind.wrap_u64]; omega
  have W3 : IntKind.u64.wrap (n : Int) = (n : Int) := by rw [IntKind.wrap_u64]; omega
  by_cases hxn : x < n
  · obtain ⟨b, off, pa, pc, rfl, _, c0, _, _, _, _⟩ := (h.kept HK.out).at_ hxn
    have hm := (hl x hxn).1
    have W4 : IntKind.u64.wrap (np F x : Int) = (np F x : Int) := by rw [IntKind.wrap_u64]; omega
    have x0 : (0 : Int) ≤ (x : Int) := by omega
    have x1 : (x : Int) < (n : Int) := by omega
    have HO : Hid (okB n F x y = decide (y < np F x)) := Lib.hid (by unfold okB; simp [hxn])
    have B0 : Blk (w.alloc (.cells #[.int .u32 (x : Int), .int .u32 (y : Int)] 25)) w.heap.size 25 [.int .u32 (x : Int), .int .u32 (y : Int)] := Blk.new w 25 _
    have q0 : (w.alloc (.cells #[.int .u32 (x : Int), .int .u32 (y : Int)] 25)).cell? ⟨w.heap.size, 0, none⟩ = some (.int .u32 (x : Int)) := B0.cell 0
    have q1 : (w.alloc (.cells #[.int .u32 (x : Int), .int .u32 (y : Int)] 25)).cell? ⟨w.heap.size, 1, none⟩ = some (.int .u32 (y : Int)) := B0.cell 1
    clear h hl B0
    go_enter Try.func7, Try.ntmps7
    go_wp2_with fail
    generalize w.alloc (.cells #[.int .u32 (x : Int), .int .u32 (y : Int)] 25) = w1 at *
    go_quiet (fail)
    go_wp2_with fail
    go_ret
    exact ⟨by rw [HO.out]; rfl, HK.out.drewN _⟩
  · have HO : Hid (okB n F x y = false) := Lib.hid (by unfold okB; simp [hxn])
    have hge : n ≤ x := by omega
    clear h hl hxn
    go_enter Try.func7, Try.ntmps7
    go_wp2_with fail
    go_ret
    exact ⟨by rw [HO.out]; rfl, HK.out⟩

def Ok (n : Nat) (F : Ct) (k : Nat) : Prop := ∀ f, f < k → ∀ p, p < np F f → ∀ x ∈ deps F f p, x.1 < n ∧ x.2 < np F x.1
def OkA (w : World) (n : Nat) (F : Ct) (e : Ending) (w' : World) : Prop := (∃ b, e = .returned (.bool b) ∧ (b = true → Ok n F n)) ∧ Kept w w'
def A6 (w : World) (n : Nat) (F : Ct) (t3 : Value) (W : World) : Prop := ∃ k : Nat, k ≤ n ∧ t3 = .int .i64 (k : Int) ∧ Ok n F k ∧ Kept w W
def B6 (w : World) (n : Nat) (F : Ct) (f : Nat) (t4 : Value) (W : World) : Prop := ∃ k : Nat, k ≤ np F f ∧ t4 = .int .i64 (k : Int) ∧ (∀ p, p < k → ∀ x ∈ deps F f p, x.1 < n ∧ x.2 < np F x.1) ∧ Kept w W
def C6 (w : World) (n : Nat) (F : Ct) (D : List (Nat × Nat)) (t6 : Value) (W : World) : Prop := ∃ k : Nat, k ≤ D.length ∧ t6 = .int .i64 (k : Int) ∧ (∀ i (h : i < D.length), i < k → D[i].1 < n ∧ D[i].2 < np F D[i].1) ∧ Kept w W

set_option maxRecDepth 100000 in
set_option maxHeartbeats 8000000 in
theorem allValid (w : World) (a : Option Addr) (n c : Nat) (F : Ct) (h : FilesC w a n F) (hn : n ≤ 131072) (hl : Lens F 131072 n) :
    Calls Try.prog 6 #[.slice a n c] w (OkA w n F) := by
  have HF := Lib.hid h
  have HL := Lib.hid hl
  clear h hl
  go_enter Try.func6, Try.ntmps6
  go_wp2_with fail
  go_loopw [3] (fun t3 W => A6 w n F t3 W) (fun t3 _ => n - (intOf t3).toNat)
  case atStart => exact ⟨0, by omega, rfl, fun f hf => absurd hf (by omega), Kept.refl _⟩
  case round =>
    obtain ⟨k, hk, rfl, hO, hK⟩ := hrel
    obtain ⟨wo, rfl⟩ : ∃ wo : World, wo = wr := ⟨_, rfl⟩
    have HO := Lib.hid hO
    have HK := Lib.hid hK
    clear hO hK
    by_cases hlt : k < n
    · obtain ⟨b, off, pa, pc, rfl, hb, c0, hpc, hpm, _, hP⟩ := HF.out.at_ hlt
      have HP := Lib.hid hP
      have k0 : (k : Int) < (n : Int) := by omega
      have hnp : np F k ≤ 131072 := (HL.out k hlt).1
      have HLk := Lib.hid (HL.out k hlt).2
      have HC0 := Lib.hid c0
      clear hP c0
      generalize hmk : np F k = m at *
      have HMK := Lib.hid hmk
      clear hmk
      go_wp2_with fail
      go_loopw [4] (fun t4 W => B6 w n F k t4 W) (fun t4 _ => m - (intOf t4).toNat)
      case atStart => exact ⟨0, Nat.zero_le _, rfl, fun f hf => absurd hf (by omega), HK.out⟩
      case round =>
        obtain ⟨j, hj, rfl, hJ, hK⟩ := hrel
        rw [HMK.out] at hj
        obtain ⟨wi, rfl⟩ : ∃ wi : World, wi = wr := ⟨_, rfl⟩
        have HJ := Lib.hid hJ
        have HK := Lib.hid hK
        clear hJ hK
        have d0 := HK.out.cell HC0.out
        by_cases hlt2 : j < m
        · obtain ⟨b2, off2, da, dc, rfl, _, c1, c2, hd1, hd2, _, hD, h32⟩ := part_at HP.out (p := j) (by rw [HMK.out]; exact hlt2)
          have d1 := HK.out.cell c2
          have HD := Lib.hid hD
          have H32 := Lib.hid h32
          have j0 : (j : Int) < (m : Int) := by omega
          have hd3 : (deps F k j).length ≤ 131072 := HLk.out j hlt2
          have HJ2 : Hid ((∀ x ∈ deps F k j, x.1 < n ∧ x.2 < np F x.1) → ∀ p, p < j + 1 → ∀ x ∈ deps F k p, x.1 < n ∧ x.2 < np F x.1) := Lib.hid (fun h p hp => by
            by_cases e : p = j
            · rw [e]; exact h
            · exact HJ.out p (by omega))
          clear HJ c1 c2 hD h32
          generalize deps F k j = D at *
          go_wp2_with fail
          clear d0 d1
          go_loopw [6] (fun t6 W => C6 w n F D t6 W) (fun t6 _ => D.length - (intOf t6).toNat)
          case atStart => exact ⟨0, Nat.zero_le _, rfl, fun i _ hi => absurd hi (by omega), HK.out⟩
          case round =>
            obtain ⟨i, hi, rfl, hI, hK3⟩ := hrel
            have HI := Lib.hid hI
            have HK3 := Lib.hid hK3
            clear hI hK3
            by_cases hlt3 : i < D.length
            · obtain ⟨b3, off3, rfl, _, hc3⟩ := HD.out (by omega)
              obtain ⟨z1, z2⟩ := hc3 i hlt3
              have z1 := HK3.out.cell z1
              have z2 := HK3.out.cell z2
              have i0 : (i : Int) < (D.length : Int) := by omega
              have HI2 : Hid (D[i].1 < n ∧ D[i].2 < np F D[i].1 → ∀ q (h : q < D.length), q < i + 1 → D[q].1 < n ∧ D[q].2 < np F D[q].1) := Lib.hid (fun h q hq hqi => by
                by_cases e : q = i
                · subst e; exact h
                · exact HI.out q hq (by omega))
              have hb32 := H32.out _ (List.getElem_mem hlt3)
              clear hc3 HI
              generalize D[i] = x at *
              obtain ⟨x1, x2⟩ := x
              simp only at z1 z2 hb32
              have HI2 : Hid (x1 < n ∧ x2 < np F x1 → ∀ q (h : q < D.length), q < i + 1 → D[q].1 < n ∧ D[q].2 < np F D[q].1) := HI2
              have HC := Lib.hid (depOK wr _ n c F x1 x2 (HF.out.kept HK3.out) hn HL.out hb32.1 hb32.2)
              clear hb32
              cases hok : okB n F x1 x2
              · have HOk := Lib.hid hok
                clear hok
                go_wp2_with fail
                refine HC.out.mono ?_
                rintro e w5 ⟨rfl, k5⟩
                rw [HOk.out]
                have HK5 := Lib.hid (HK3.out.trans k5)
                clear k5 z1 z2
                go_wp2_with fail
                go_ret
                exact ⟨⟨false, rfl, fun h => by cases h⟩, HK5.out⟩
              · have HOk := Lib.hid (HI2.out (by unfold okB at hok; exact of_decide_eq_true hok))
                have HOk2 := Lib.hid hok
                clear hok HI2
                go_wp2_with fail
                refine HC.out.mono ?_
                rintro e w5 ⟨rfl, k5⟩
                rw [HOk2.out]
                have HK5 := Lib.hid (HK3.out.trans k5)
                clear k5 z1 z2
                go_wp2_with fail
                go_roundw
                case rel => exact ⟨i + 1, by omega, by go_num, HOk.out, HK5.out⟩
                case measure => simp [intOf]; omega
            · obtain rfl : i = D.length := by omega
              have HJ3 := Lib.hid (HJ2.out (fun x hx => by
                obtain ⟨q, hq, rfl⟩ := List.getElem_of_mem hx
                exact HI.out q hq hq))
              clear HJ2 HI
              go_wp2_with fail
              go_roundw
              case rel => exact ⟨j + 1, by rw [HMK.out]; omega, by go_num, HJ3.out, HK3.out⟩
              case measure => simp [intOf]; omega
        · obtain rfl : j = m := by omega
          have HO2 : Hid (Ok n F (k + 1)) := Lib.hid (fun f hf => by
            by_cases e : f = k
            · rw [e, HMK.out]; exact HJ.out
            · exact HO.out f (by omega))
          clear HJ
          go_wp2_with fail
          go_roundw
          case rel => exact ⟨k + 1, by omega, by go_num, HO2.out, HK.out⟩
          case measure => simp [intOf]; omega
    · obtain rfl : n = k := by omega
      go_wp2_with fail
      go_ret
      exact ⟨⟨true, rfl, fun _ => HO.out⟩, HK.out⟩
end Go.Proofs.Ytbdchplgefgkjab.tm
