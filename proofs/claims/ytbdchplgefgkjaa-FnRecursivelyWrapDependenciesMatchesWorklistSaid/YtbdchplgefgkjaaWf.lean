/-
  The files as they came in over this seat's program; the two guards.
  Conditions: the files are readable.
-/
import Derived.Test.YtbdchplgefgkjaaTurn
import Derived.LoopTactic
import Derived.Outline
import Derived.IntWalk
namespace Go.Proofs.Ytbdchplgefgkjaa.wm
open Go.ChangeShapes Go.WideShapes Go.ChangeAt Go.RowKit
open kit

/-- one file as it came in: its numbers, its imports, and the slice that they lie in -/
structure WF where
  ek : Int
  wr : Int
  did : Bool
  im : List Int
  a : Option Addr
  c : Nat
instance : Inhabited WF := ⟨⟨0, 0, false, [], none, 0⟩⟩
def FileAt (w : World) (b o : Nat) (f : WF) : Prop :=
  w.cell? ⟨b, o, none⟩ = some (.int .u8 f.ek) ∧ w.cell? ⟨b, o + 1, none⟩ = some (.int .u8 f.wr) ∧ w.cell? ⟨b, o + 2, none⟩ = some (.bool f.did) ∧
  w.cell? ⟨b, o + 3, none⟩ = some (.slice f.a f.im.length f.c) ∧ Row w f.a f.im.length f.c (f.im.map (Value.int .i32))
def Fs (w : World) (a : Option Addr) (n : Nat) (fs : List WF) : Prop :=
  fs.length = n ∧ (0 < n → ∃ b off, a = some ⟨b, off, none⟩ ∧ b < w.heap.size ∧ ∀ i, i < n → FileAt w b (off + i * 4) (fs.getD i default)) ∧
  ∀ f ∈ fs, (0 ≤ f.ek ∧ f.ek ≤ 255) ∧ (0 ≤ f.wr ∧ f.wr ≤ 255) ∧ ∀ x ∈ f.im, -2147483648 ≤ x ∧ x ≤ 2147483647
theorem FileAt.kept {w w2 : World} {b o : Nat} {f : WF} (h : FileAt w b o f) (k : Kept w w2) : FileAt w2 b o f :=
  ⟨k.cell h.1, k.cell h.2.1, k.cell h.2.2.1, k.cell h.2.2.2.1, h.2.2.2.2.kept k⟩
theorem Fs.at_ {w : World} {a : Option Addr} {n : Nat} {fs : List WF} (h : Fs w a n fs) {k : Nat} (hk : k < n) : ∃ b off, a = some ⟨b, off, none⟩ ∧ b < w.heap.size ∧ FileAt w b (off + k * 4) (fs.getD k default) := by
  obtain ⟨b, off, e, hb, hc⟩ := h.2.1 (by omega)
  exact ⟨b, off, e, hb, hc k hk⟩
theorem Fs.mem {w : World} {a : Option Addr} {n : Nat} {fs : List WF} (h : Fs w a n fs) {k : Nat} (hk : k < n) : fs.getD k default ∈ fs := by
  have hl := h.1
  rw [List.getD_eq_getElem?_getD, List.getElem?_eq_getElem (by omega)]
  exact List.getElem_mem _

/-- the bytes' guard -/
def BytesBool (w : World) (n : Nat) (fs : List WF) (e : Ending) (w' : World) : Prop :=
  (∃ b, e = .returned (.bool b) ∧ (b = true → n ≤ 1048576 ∧ ∀ i, i < n → (fs.getD i default).im.length ≤ 1048576)) ∧ w = w'
def Small (fs : List WF) (k : Nat) : Prop := ∀ i, i < k → (fs.getD i default).im.length ≤ 1048576
def B4 (n : Nat) (fs : List WF) (t5 t6 : Value) : Prop := ∃ (k : Nat) (x : Int), k ≤ n ∧ t6 = .int .i64 (k : Int) ∧ t5 = .int .i64 x ∧ Small fs k

set_option maxRecDepth 100000 in
set_option maxHeartbeats 4000000 in
theorem bytes (w : World) (a : Option Addr) (n c : Nat) (s : Int) (fs : List WF) (h : Fs w a n fs) (hnc : n ≤ maxLen) :
    Calls Try.prog 4 #[.slice a n c, .int .u32 s] w (BytesBool w n fs) := by
  have HF := Lib.hid h
  clear h
  unfold maxLen at hnc
  by_cases hn : n ≤ 1048576
  · go_enter Try.func4, Try.ntmps4
    go_wp2_with fail
    go_loop [5, 6] (fun t5 t6 => B4 n fs t5 t6) (fun _ t6 => n - (intOf t6).toNat)
    case atStart => exact ⟨0, _, by omega, rfl, rfl, fun i hi => absurd hi (by omega)⟩
    case round =>
      obtain ⟨k, x, hk, rfl, rfl, hs⟩ := hrel
      have HS := Lib.hid hs
      clear hs
      by_cases hlt : k < n
      · obtain ⟨b, off, rfl, _, _, _, _, c3, hr⟩ := HF.out.at_ hlt
        have HL : Hid ((fs.getD k default).im.length ≤ 1048576 → Small fs (k + 1)) := Lib.hid (fun h i hi => by
          by_cases e : i = k
          · rw [e]; exact h
          · exact HS.out i (by omega))
        have hm : (fs.getD k default).im.length ≤ 9223372036854775807 := by have h1 := hr.2.1; have h2 := hr.2.2.1; unfold maxLen at h2; omega
        clear hr HS
        generalize (fs.getD k default).im.length = m at *
        generalize (fs.getD k default).a = ia at *
        generalize (fs.getD k default).c = ic at *
        by_cases hm2 : m ≤ 1048576
        · have HL2 := Lib.hid (HL.out hm2)
          clear HL
          go_wp2_with fail
          · go_ret
            exact ⟨⟨false, rfl, fun h => by cases h⟩, rfl⟩
          · go_round
            case rel => exact ⟨k + 1, _, by omega, by go_num, rfl, HL2.out⟩
            case measure => simp [intOf]; omega
        · go_wp2_with fail
          go_ret
          exact ⟨⟨false, rfl, fun h => by cases h⟩, rfl⟩
      · obtain rfl : n = k := by omega
        go_wp2_with fail
        go_ret
        exact ⟨⟨true, rfl, fun _ => ⟨hn, HS.out⟩⟩, rfl⟩
  · go_enter Try.func4, Try.ntmps4
    go_wp2_with fail
    go_ret
    exact ⟨⟨false, rfl, fun h => by cases h⟩, rfl⟩

/-- the shape that the law asks for -/
structure Fit (n : Nat) (fs : List WF) : Prop where
  top : n ≤ 4096
  len : ∀ i, i < n → (fs.getD i default).im.length ≤ 262144
  low : ∀ i, i < n → ∀ j, j < (fs.getD i default).im.length → (fs.getD i default).im.getD j 0 < n
def FitBool (w : World) (n : Nat) (fs : List WF) (e : Ending) (w' : World) : Prop :=
  (∃ b, e = .returned (.bool b) ∧ (b = true → Fit n fs)) ∧ w = w'
def L1 (n : Nat) (fs : List WF) (t3 t4 : Value) : Prop := ∃ (k x : Nat), k ≤ n ∧ t4 = .int .i64 (k : Int) ∧ t3 = .int .i64 (x : Int) ∧ x ≤ 1048576 ∧ Hid (∀ i, i < k → (fs.getD i default).im.length * 4 ≤ x)
def L2 (n : Nat) (fs : List WF) (t5 : Value) : Prop := ∃ (k : Nat), k ≤ n ∧ t5 = .int .i64 (k : Int) ∧ Hid (∀ i, i < k → ∀ j, j < (fs.getD i default).im.length → (fs.getD i default).im.getD j 0 < n)
def L3 (n : Nat) (im : List Int) (t6 : Value) : Prop := ∃ (k : Nat), k ≤ im.length ∧ t6 = .int .i64 (k : Int) ∧ Hid (∀ j, j < k → im.getD j 0 < n)

set_option maxRecDepth 100000 in
set_option maxHeartbeats 8000000 in
theorem fits (w : World) (a : Option Addr) (n c : Nat) (fs : List WF) (h : Fs w a n fs) (hn : n ≤ 1048576) (hs : Small fs n) :
    Calls Try.prog 5 #[.slice a n c] w (FitBool w n fs) := by
  have HF := Lib.hid h
  have HS := Lib.hid hs
  clear h hs
  by_cases hn2 : n ≤ 4096
  · have W1 : IntKind.i32.wrap (n : Int) = (n : Int) := IntWalk.i32_in _ (by omega)
    go_enter Try.func5, Try.ntmps5
    go_wp2_with fail
    go_loop [3, 4] (fun t3 t4 => L1 n fs t3 t4) (fun _ t4 => n - (intOf t4).toNat)
    case atStart => exact ⟨0, n * 32, by omega, rfl, by go_num, by omega, Lib.hid (fun i hi => absurd hi (by omega))⟩
    case round =>
      obtain ⟨k, x, hk, rfl, rfl, hx, HX⟩ := hrel
      by_cases hlt : k < n
      · obtain ⟨b, off, rfl, _, _, _, _, c3, _⟩ := HF.out.at_ hlt
        have hm : (fs.getD k default).im.length ≤ 1048576 := HS.out k hlt
        have HN : Hid (∀ i, i < k + 1 → (fs.getD i default).im.length * 4 ≤ x + (fs.getD k default).im.length * 4) := Lib.hid (fun i hi => by
          by_cases e : i = k
          · rw [e]; omega
          · have := HX.out i (by omega); omega)
        clear HX
        generalize (fs.getD k default).im.length = m at *
        generalize (fs.getD k default).a = ia at *
        generalize (fs.getD k default).c = ic at *
        go_wp2_with fail
        · go_ret
          exact ⟨⟨false, rfl, fun h => by cases h⟩, rfl⟩
        · go_round
          case rel => exact ⟨k + 1, x + m * 4, by omega, by go_num, by go_num, by omega, HN⟩
          case measure => simp [intOf]; omega
      · obtain rfl : n = k := by omega
        have HLEN : Hid (∀ i, i < n → (fs.getD i default).im.length ≤ 262144) := Lib.hid (fun i hi => by have := HX.out i hi; omega)
        clear HX
        go_wp2_with fail
        go_loop [5, 6] (fun t5 _ => L2 n fs t5) (fun t5 _ => n - (intOf t5).toNat)
        case atStart => exact ⟨0, by omega, rfl, Lib.hid (fun i hi => absurd hi (by omega))⟩
        case round =>
          obtain ⟨k, hk2, rfl, HY⟩ := hrel
          by_cases hlt : k < n
          · obtain ⟨b, off, rfl, _, _, _, _, c3, hr⟩ := HF.out.at_ hlt
            have hm : (fs.getD k default).im.length ≤ 262144 := HLEN.out k hlt
            have HR := Lib.hid hr
            clear hr
            have HN : Hid ((∀ j, j < (fs.getD k default).im.length → (fs.getD k default).im.getD j 0 < n) → ∀ i, i < k + 1 → ∀ j, j < (fs.getD i default).im.length → (fs.getD i default).im.getD j 0 < n) := Lib.hid (fun h i hi => by
              by_cases e : i = k
              · rw [e]; exact h
              · exact HY.out i (by omega))
            clear HY
            generalize (fs.getD k default).im = im at *
            generalize (fs.getD k default).a = ia at *
            generalize (fs.getD k default).c = ic at *
            go_wp2_with fail
            go_loop [6] (fun t6 => L3 n im t6) (fun t6 => im.length - (intOf t6).toNat)
            case atStart => exact ⟨0, by omega, rfl, Lib.hid (fun i hi => absurd hi (by omega))⟩
            case round =>
              obtain ⟨j, hj, rfl, HJ⟩ := hrel
              by_cases hlt2 : j < im.length
              · obtain ⟨b2, off2, e2, _, x0⟩ := HR.out.at_ 0 hlt2
                subst e2
                have HJ2 : Hid (im.getD j 0 < n → ∀ i, i < j + 1 → im.getD i 0 < n) := Lib.hid (fun h i hi => by
                  by_cases e : i = j
                  · rw [e]; exact h
                  · exact HJ.out i (by omega))
                clear HJ
                generalize im.getD j 0 = y at *
                by_cases hy : y < (n : Int)
                · have HJ3 := Lib.hid (HJ2.out hy)
                  clear HJ2
                  go_wp2_with fail
                  go_round
                  case rel => exact ⟨j + 1, by omega, by go_num, HJ3⟩
                  case measure => simp [intOf]; omega
                · clear HJ2
                  go_wp2_with fail
                  go_ret
                  exact ⟨⟨false, rfl, fun h => by cases h⟩, rfl⟩
              · obtain rfl : j = im.length := by omega
                have HN2 := Lib.hid (HN.out HJ.out)
                clear HJ HN
                go_wp2_with fail
                go_round
                case rel => exact ⟨k + 1, by omega, by go_num, HN2⟩
                case measure => simp [intOf]; omega
          · obtain rfl : n = k := by omega
            go_wp2_with fail
            go_ret
            exact ⟨⟨true, rfl, fun _ => ⟨hn2, HLEN.out, HY.out⟩⟩, rfl⟩
  · go_enter Try.func5, Try.ntmps5
    go_wp2_with fail
    go_ret
    exact ⟨⟨false, rfl, fun h => by cases h⟩, rfl⟩
end Go.Proofs.Ytbdchplgefgkjaa.wm
