/-
  Index32, BitSet over this seat's program: contracts; eight bits in a byte.
  Conditions: none.
-/
import Derived.Test.YtgnccfofhcbjjaaGd
import Derived.Laws.Tables
import Derived.Laws.BitsAllLaws
namespace Go.Proofs.Ytgnccfofhcbjjaa.lk
open Go.ChangeShapes Go.WideShapes Go.ChangeAt Go.RowKit
open kit dfs

theorem make (a : Int) (h0 : 0 ≤ a) (h1 : a ≤ 4294967295) (w : World) :
    Calls Try.prog 16 #[.int .u32 a] w fun e w' => e = .returned (.agg #[.int .u32 (4294967295 - a)]) ∧ Kept w w' := by
  have hx := flip32 a h0 h1
  go_enter Try.func16, Try.ntmps16
  go_wp2
  exact bodyPost_ret (v := .agg #[.int .u32 (4294967295 - a)]) (by simp [results, Try.results16, go_sem]) rfl ⟨rfl, (Kept.refl _).alloc _⟩
theorem get (a : Int) (h0 : 0 ≤ a) (h1 : a ≤ 4294967295) (w : World) :
    Calls Try.prog 26 #[.agg #[.int .u32 a]] w fun e w' => e = .returned (.int .u32 (4294967295 - a)) ∧ Kept w w' := by
  have hx := flip32 a h0 h1
  go_enter Try.func26, Try.ntmps26
  go_wp2
  go_ret
  exact ⟨rfl, (Kept.refl _).alloc _⟩
theorem valid (a : Int) (b : Bool) (hb : (a == 0) = !b) (w : World) :
    Calls Try.prog 25 #[.agg #[.int .u32 a]] w fun e w' => e = .returned (.bool b) ∧ Kept w w' := by
  have h2 : (a != 0) = b := by rw [bne, hb]; simp
  clear hb
  go_enter Try.func25, Try.ntmps25
  go_wp2
  go_ret
  exact ⟨rfl, (Kept.refl _).alloc _⟩

def byte8 (g : Nat → Bool) (o : Nat) : Nat := (g o).toNat + 2 * (g (o + 1)).toNat + 4 * (g (o + 2)).toNat + 8 * (g (o + 3)).toNat + 16 * (g (o + 4)).toNat + 32 * (g (o + 5)).toNat + 64 * (g (o + 6)).toNat + 128 * (g (o + 7)).toNat
theorem toNat1 (b : Bool) : b.toNat ≤ 1 := by cases b <;> decide
theorem byte8_lt (g : Nat → Bool) (o : Nat) : byte8 g o < 256 := by
  unfold byte8
  have := toNat1 (g o); have := toNat1 (g (o + 1)); have := toNat1 (g (o + 2)); have := toNat1 (g (o + 3)); have := toNat1 (g (o + 4)); have := toNat1 (g (o + 5)); have := toNat1 (g (o + 6)); have := toNat1 (g (o + 7))
  omega
theorem byte8_and (g : Nat → Bool) (o : Nat) {r : Nat} (hr : r < 8) : byte8 g o &&& 2 ^ r = (g (o + r)).toNat * 2 ^ r := by
  rw [nat_bit]
  congr 1
  unfold byte8
  have := toNat1 (g o); have := toNat1 (g (o + 1)); have := toNat1 (g (o + 2)); have := toNat1 (g (o + 3)); have := toNat1 (g (o + 4)); have := toNat1 (g (o + 5)); have := toNat1 (g (o + 6)); have := toNat1 (g (o + 7))
  rcases (show r = 0 ∨ r = 1 ∨ r = 2 ∨ r = 3 ∨ r = 4 ∨ r = 5 ∨ r = 6 ∨ r = 7 by omega) with rfl | rfl | rfl | rfl | rfl | rfl | rfl | rfl <;> simp only [Nat.add_zero, Nat.reducePow] <;> omega
def byteB (b0 b1 b2 b3 b4 b5 b6 b7 : Bool) : Nat := b0.toNat + 2 * b1.toNat + 4 * b2.toNat + 8 * b3.toNat + 16 * b4.toNat + 32 * b5.toNat + 64 * b6.toNat + 128 * b7.toNat
theorem orB0 : ∀ b0 b1 b2 b3 b4 b5 b6 b7 : Bool, byteB b0 b1 b2 b3 b4 b5 b6 b7 ||| 1 = byteB true b1 b2 b3 b4 b5 b6 b7 := by decide
theorem orB1 : ∀ b0 b1 b2 b3 b4 b5 b6 b7 : Bool, byteB b0 b1 b2 b3 b4 b5 b6 b7 ||| 2 = byteB b0 true b2 b3 b4 b5 b6 b7 := by decide
theorem orB2 : ∀ b0 b1 b2 b3 b4 b5 b6 b7 : Bool, byteB b0 b1 b2 b3 b4 b5 b6 b7 ||| 4 = byteB b0 b1 true b3 b4 b5 b6 b7 := by decide
theorem orB3 : ∀ b0 b1 b2 b3 b4 b5 b6 b7 : Bool, byteB b0 b1 b2 b3 b4 b5 b6 b7 ||| 8 = byteB b0 b1 b2 true b4 b5 b6 b7 := by decide
theorem orB4 : ∀ b0 b1 b2 b3 b4 b5 b6 b7 : Bool, byteB b0 b1 b2 b3 b4 b5 b6 b7 ||| 16 = byteB b0 b1 b2 b3 true b5 b6 b7 := by decide
theorem orB5 : ∀ b0 b1 b2 b3 b4 b5 b6 b7 : Bool, byteB b0 b1 b2 b3 b4 b5 b6 b7 ||| 32 = byteB b0 b1 b2 b3 b4 true b6 b7 := by decide
theorem orB6 : ∀ b0 b1 b2 b3 b4 b5 b6 b7 : Bool, byteB b0 b1 b2 b3 b4 b5 b6 b7 ||| 64 = byteB b0 b1 b2 b3 b4 b5 true b7 := by decide
theorem orB7 : ∀ b0 b1 b2 b3 b4 b5 b6 b7 : Bool, byteB b0 b1 b2 b3 b4 b5 b6 b7 ||| 128 = byteB b0 b1 b2 b3 b4 b5 b6 true := by decide
theorem byte8_or (g : Nat → Bool) (o : Nat) {r : Nat} (hr : r < 8) : byte8 g o ||| 2 ^ r = byte8 (upd g (o + r) true) o := by
  have e : ∀ f : Nat → Bool, byte8 f o = byteB (f o) (f (o + 1)) (f (o + 2)) (f (o + 3)) (f (o + 4)) (f (o + 5)) (f (o + 6)) (f (o + 7)) := fun _ => rfl
  rw [e, e]
  rcases (show r = 0 ∨ r = 1 ∨ r = 2 ∨ r = 3 ∨ r = 4 ∨ r = 5 ∨ r = 6 ∨ r = 7 by omega) with rfl | rfl | rfl | rfl | rfl | rfl | rfl | rfl
  · simp only [Nat.add_zero]; rw [upd_same, upd_ne _ _ (by omega), upd_ne _ _ (by omega), upd_ne _ _ (by omega), upd_ne _ _ (by omega), upd_ne _ _ (by omega), upd_ne _ _ (by omega), upd_ne _ _ (by omega)]; exact orB0 _ _ _ _ _ _ _ _
  · rw [upd_ne _ _ (by omega), upd_same, upd_ne _ _ (by omega), upd_ne _ _ (by omega), upd_ne _ _ (by omega), upd_ne _ _ (by omega), upd_ne _ _ (by omega), upd_ne _ _ (by omega)]; exact orB1 _ _ _ _ _ _ _ _
  · rw [upd_ne _ _ (by omega), upd_ne _ _ (by omega), upd_same, upd_ne _ _ (by omega), upd_ne _ _ (by omega), upd_ne _ _ (by omega), upd_ne _ _ (by omega), upd_ne _ _ (by omega)]; exact orB2 _ _ _ _ _ _ _ _
  · rw [upd_ne _ _ (by omega), upd_ne _ _ (by omega), upd_ne _ _ (by omega), upd_same, upd_ne _ _ (by omega), upd_ne _ _ (by omega), upd_ne _ _ (by omega), upd_ne _ _ (by omega)]; exact orB3 _ _ _ _ _ _ _ _
  · rw [upd_ne _ _ (by omega), upd_ne _ _ (by omega), upd_ne _ _ (by omega), upd_ne _ _ (by omega), upd_same, upd_ne _ _ (by omega), upd_ne _ _ (by omega), upd_ne _ _ (by omega)]; exact orB4 _ _ _ _ _ _ _ _
  · rw [upd_ne _ _ (by omega), upd_ne _ _ (by omega), upd_ne _ _ (by omega), upd_ne _ _ (by omega), upd_ne _ _ (by omega), upd_same, upd_ne _ _ (by omega), upd_ne _ _ (by omega)]; exact orB5 _ _ _ _ _ _ _ _
  · rw [upd_ne _ _ (by omega), upd_ne _ _ (by omega), upd_ne _ _ (by omega), upd_ne _ _ (by omega), upd_ne _ _ (by omega), upd_ne _ _ (by omega), upd_same, upd_ne _ _ (by omega)]; exact orB6 _ _ _ _ _ _ _ _
  · rw [upd_ne _ _ (by omega), upd_ne _ _ (by omega), upd_ne _ _ (by omega), upd_ne _ _ (by omega), upd_ne _ _ (by omega), upd_ne _ _ (by omega), upd_ne _ _ (by omega), upd_same]; exact orB7 _ _ _ _ _ _ _ _
theorem byte8_far (g : Nat → Bool) {o b : Nat} (h : b < o ∨ o + 8 ≤ b) : byte8 (upd g b true) o = byte8 g o := by
  unfold byte8
  rw [upd_ne _ _ (by omega), upd_ne _ _ (by omega), upd_ne _ _ (by omega), upd_ne _ _ (by omega), upd_ne _ _ (by omega), upd_ne _ _ (by omega), upd_ne _ _ (by omega), upd_ne _ _ (by omega)]
/-- the 32 bytes that hold the bits e -/
def bitCells (e : Nat → Bool) : List Value := (List.range 32).map fun j => .int .u8 (byte8 e (j * 8) : Int)
theorem bitCells_len (e : Nat → Bool) : (bitCells e).length = 32 := by simp [bitCells]
theorem bitCells_at (e : Nat → Bool) {j : Nat} (hj : j < 32) : (bitCells e)[j]? = some (.int .u8 (byte8 e (j * 8) : Int)) := by simp [bitCells, hj]
theorem bitCells_zero : bitCells (fun _ => false) = List.replicate 32 (.int .u8 0) := by rfl
theorem bitCells_set (e : Nat → Bool) {b : Nat} (hb : b < 256) : (bitCells e).set (b / 8) (.int .u8 (byte8 (upd e b true) (b / 8 * 8) : Int)) = bitCells (upd e b true) := by
  apply List.ext_getElem?
  intro j
  by_cases hj : j < 32
  · rw [bitCells_at _ hj]
    by_cases h : j = b / 8
    · rw [h, List.getElem?_set_self (by rw [bitCells_len]; omega)]
    · rw [List.getElem?_set_ne (by omega), bitCells_at _ hj, byte8_far _ (by omega)]
  · rw [List.getElem?_eq_none (by rw [List.length_set, bitCells_len]; omega), List.getElem?_eq_none (by rw [bitCells_len]; omega)]
theorem shl8 {r : Nat} (hr : r < 8) : (2 : Int) ^ min r 8 % 256 = ((2 ^ r : Nat) : Int) := by
  rcases (show r = 0 ∨ r = 1 ∨ r = 2 ∨ r = 3 ∨ r = 4 ∨ r = 5 ∨ r = 6 ∨ r = 7 by omega) with rfl | rfl | rfl | rfl | rfl | rfl | rfl | rfl <;> rfl
theorem and7 (b : Nat) (hb : b < 256) : bits .and .u64 (b : Int) 7 = ((b % 8 : Nat) : Int) := by
  have := u64_and_nat b 7 (by omega) (by omega)
  rw [nat_mask3] at this
  exact this

set_option maxRecDepth 100000 in
set_option maxHeartbeats 8000000 in
theorem hasBit (w : World) (g b : Nat) (e : Nat → Bool) (hb : b < 256) (hg : Blk w g 5 (bitCells e)) :
    Calls Try.prog 12 #[.agg #[.slice (some ⟨g, 0, none⟩) 32 32], .int .u64 (b : Int)] w (fun x w' => x = .returned (.bool (e b)) ∧ Kept w w') := by
  have hK := Lib.hid ((Kept.refl w).alloc (.cells #[.slice (some ⟨g, 0, none⟩) 32 32] 36))
  have hc2 : (w.alloc (.cells #[.slice (some ⟨g, 0, none⟩) 32 32] 36)).cell? ⟨g, b / 8, none⟩ = some (.int .u8 (byte8 e (b / 8 * 8) : Int)) := hK.out.cell (by rw [hg.cell]; exact bitCells_at e (by omega))
  have h7 := and7 b hb
  have hs := shl8 (r := b % 8) (by omega)
  have ha : bits .and .u8 (byte8 e (b / 8 * 8) : Int) ((2 ^ (b % 8) : Nat) : Int) = (((e b).toNat * 2 ^ (b % 8) : Nat) : Int) := by
    have h2 : 2 ^ (b % 8) < 256 := by
      have : 2 ^ (b % 8) ≤ 2 ^ 7 := Nat.pow_le_pow_right (by omega) (by omega)
      omega
    rw [u8_and_nat _ _ (byte8_lt _ _) h2, byte8_and _ _ (by omega), show b / 8 * 8 + b % 8 = b by omega]
  have hn : ((((e b).toNat * 2 ^ (b % 8) : Nat) : Int) != 0) = e b := by
    cases e b
    · simp
    · have h : 0 < 2 ^ (b % 8) := Nat.pow_pos (by omega)
      generalize 2 ^ (b % 8) = p at h ⊢
      simp
      omega
  generalize byte8 e (b / 8 * 8) = y at *
  generalize (e b).toNat * 2 ^ (b % 8) = z at *
  generalize 2 ^ (b % 8) = p at *
  generalize b % 8 = r at *
  clear hg
  go_enter Try.func12, Try.ntmps12
  go_wp2_with fail
  go_ret
  exact ⟨rfl, hK.out⟩
set_option maxRecDepth 100000 in
set_option maxHeartbeats 8000000 in
theorem setBit (w : World) (g b : Nat) (e : Nat → Bool) (hb : b < 256) (hg : Blk w g 5 (bitCells e)) :
    Calls Try.prog 24 #[.agg #[.slice (some ⟨g, 0, none⟩) 32 32], .int .u64 (b : Int)] w (fun x w' => x = .returned (.tuple #[]) ∧ Blk w' g 5 (bitCells (upd e b true)) ∧ Turn w w' (fun k => k = g)) := by
  have hK := Lib.hid ((Kept.refl w).alloc (.cells #[.slice (some ⟨g, 0, none⟩) 32 32] 36))
  have hB := Lib.hid (hg.kept hK.out)
  have hc2 : (w.alloc (.cells #[.slice (some ⟨g, 0, none⟩) 32 32] 36)).cell? ⟨g, b / 8, none⟩ = some (.int .u8 (byte8 e (b / 8 * 8) : Int)) := by rw [hB.out.cell]; exact bitCells_at e (by omega)
  have hf2 := hB.out.free (b / 8)
  have h7 := and7 b hb
  have hs := shl8 (r := b % 8) (by omega)
  have ha : bits .or .u8 (byte8 e (b / 8 * 8) : Int) ((2 ^ (b % 8) : Nat) : Int) = (byte8 (upd e b true) (b / 8 * 8) : Int) := by
    have h2 : 2 ^ (b % 8) < 256 := by
      have : 2 ^ (b % 8) ≤ 2 ^ 7 := Nat.pow_le_pow_right (by omega) (by omega)
      omega
    rw [u8_or_nat _ _ (byte8_lt _ _) h2, byte8_or _ _ (by omega), show b / 8 * 8 + b % 8 = b by omega]
  have HR : Hid (Blk ((w.alloc (.cells #[.slice (some ⟨g, 0, none⟩) 32 32] 36)).setCell ⟨g, b / 8, none⟩ (.int .u8 (byte8 (upd e b true) (b / 8 * 8) : Int))) g 5 (bitCells (upd e b true))) := Lib.hid (by
    have := hB.out.set (b / 8) (.int .u8 (byte8 (upd e b true) (b / 8 * 8) : Int))
    rw [bitCells_set e hb] at this
    exact this)
  have HT : Hid (Turn w ((w.alloc (.cells #[.slice (some ⟨g, 0, none⟩) 32 32] 36)).setCell ⟨g, b / 8, none⟩ (.int .u8 (byte8 (upd e b true) (b / 8 * 8) : Int))) (fun k => k = g)) := Lib.hid ((Turn.of_kept hK.out (fun k => k = g)).set (p := ⟨g, b / 8, none⟩) rfl _)
  generalize byte8 e (b / 8 * 8) = y at *
  generalize byte8 (upd e b true) (b / 8 * 8) = z at *
  generalize 2 ^ (b % 8) = p at *
  generalize b % 8 = r at *
  clear hg
  go_enter Try.func24, Try.ntmps24
  go_wp2_with fail
  go_end0
  exact ⟨rfl, HR.out, HT.out⟩
theorem made32 : ∀ W : World, (Instr.makeSlice 34 (.int .u64 32) (.int .u64 32)).run Try.prog W = .ok (.slice (some ⟨W.heap.size, 0, none⟩) 32 32) (W.alloc (.cells (bitCells (fun _ => false)).toArray 5)) := fun W => by kernel_rfl
set_option maxRecDepth 100000 in
set_option maxHeartbeats 8000000 in
theorem newBits (w : World) : Calls Try.prog 18 #[.int .u64 256] w (fun x w' => ∃ g, x = .returned (.agg #[.slice (some ⟨g, 0, none⟩) 32 32]) ∧ w.heap.size ≤ g ∧ Blk w' g 5 (bitCells (fun _ => false)) ∧ Kept w w') := by
  have hm := made32
  generalize bitCells (fun _ => false) = C at *
  go_enter Try.func18, Try.ntmps18
  go_wp2_with fail
  refine bodyPost_ret (v := .agg #[.slice (some ⟨w.heap.size + 1, 0, none⟩) 32 32]) (by simp [results, Try.results18, go_sem]) rfl ⟨_, rfl, Nat.le_succ _, ?_, ((Kept.refl _).alloc _).alloc _⟩
  have := Blk.new (w.alloc (.cells #[.slice (some ⟨w.heap.size + 1, 0, none⟩) 32 32] 36)) 5 C
  simpa using this
end Go.Proofs.Ytgnccfofhcbjjaa.lk
