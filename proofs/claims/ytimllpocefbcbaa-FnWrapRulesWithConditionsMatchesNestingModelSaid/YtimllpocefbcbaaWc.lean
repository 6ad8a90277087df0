/-
  Import conditions (layers, each named or not; a number of supports) as plain content, how they are read in memory, as the linker reads them built, and a nest of at-rules in memory; over this seat's program.
  Conditions: none.
-/
import Derived.Test.YtimllpocefbcbaaSl
import Derived.Test.YtimllpocefbcbaaMk1
import Derived.Test.YtimllpocefbcbaaPush
namespace Go.Proofs.Ytimllpocefbcbaa.wr
open Go.ChangeShapes Go.WideShapes Go.ChangeAt Go.RowKit
open kit

structure Cnd where
  L : List Bool
  s : Int
instance : Inhabited Cnd := ⟨⟨[], 0⟩⟩
abbrev Cs := List Cnd
def at_ (F : Cs) (i : Nat) : Cnd := F.getD i default

def CndC (w : World) (b o : Nat) (c : Cnd) : Prop :=
  ∃ a1 c1, w.cell? ⟨b, o, none⟩ = some (.slice a1 c.L.length c1) ∧ w.cell? ⟨b, o + 1, none⟩ = some (.int .i64 c.s) ∧ Row w a1 c.L.length c1 (c.L.map Value.bool)
def CndsC (w : World) (v : Value) (F : Cs) : Prop := Sl w v F.length 2 fun b o i => CndC w b o (at_ F i)
section
variable {w w2 : World} {b o : Nat} {v : Value}
theorem CndC.kept {c : Cnd} (h : CndC w b o c) (k : Kept w w2) : CndC w2 b o c := by
  obtain ⟨a1, c1, h1, h2, r1⟩ := h
  exact ⟨a1, c1, k.cell h1, k.cell h2, r1.kept k⟩
theorem CndsC.kept {F : Cs} (h : CndsC w v F) (k : Kept w w2) : CndsC w2 v F := Sl.mono h k.size fun _ _ _ _ q => q.kept k
end
theorem CndsC.at_ {w : World} {F : Cs} {a : Option Addr} {m c : Nat} (h : CndsC w (.slice a m c) F) {k : Nat} (hk : k < F.length) : ∃ b off, a = some ⟨b, off, none⟩ ∧ b < w.heap.size ∧ CndC w b (off + k * 2) (at_ F k) := Sl.at_ h hk

/-- the sizes are within the law's bounds -/
def Fit1 (c : Cnd) : Prop := c.L.length ≤ 65536 ∧ 0 ≤ c.s ∧ c.s ≤ 65536
def Fit (F : Cs) (k : Nat) : Prop := ∀ i, i < k → Fit1 (at_ F i)
theorem Fit.step {F : Cs} {k : Nat} (h : Fit F k) (h0 : Fit1 (at_ F k)) : Fit F (k + 1) := fun i hi => by
  by_cases e : i = k
  · rw [e]; exact h0
  · exact h i (by omega)

/-- a token's cells, the first aside -/
def TkR (w : World) (b o : Nat) : Prop := w.cell? ⟨b, o + 1, none⟩ = some (.string ⟨#[]⟩) ∧ w.cell? ⟨b, o + 2, none⟩ = some (.int .i32 0) ∧ w.cell? ⟨b, o + 3, none⟩ = some (.int .u32 0) ∧ w.cell? ⟨b, o + 4, none⟩ = some (.int .u16 0) ∧ w.cell? ⟨b, o + 5, none⟩ = some (.int .u8 0) ∧ w.cell? ⟨b, o + 6, none⟩ = some (.int .u8 0)
/-- a supports token: all zero -/
def TkS (w : World) (b o : Nat) : Prop := w.cell? ⟨b, o, none⟩ = some (.pointer none) ∧ TkR w b o
/-- a layer's token: a named one points at an empty list of children -/
def TkL (w : World) (b o : Nat) (op : Bool) : Prop :=
  ((op = false ∧ w.cell? ⟨b, o, none⟩ = some (.pointer none)) ∨ (op = true ∧ ∃ q a c, w.cell? ⟨b, o, none⟩ = some (.pointer (some ⟨q, 0, none⟩)) ∧ w.cell? ⟨q, 0, none⟩ = some (.slice a 0 c) ∧ c ≤ 9223372036854775807)) ∧ TkR w b o
/-- a condition as the linker reads it -/
def ImpC (w : World) (b o : Nat) (c : Cnd) : Prop :=
  ∃ v1 v2, w.cell? ⟨b, o, none⟩ = some (.slice none 0 0) ∧ w.cell? ⟨b, o + 1, none⟩ = some v1 ∧ w.cell? ⟨b, o + 2, none⟩ = some v2 ∧
    Sl w v1 c.L.length 7 (fun b o i => TkL w b o (c.L.getD i false)) ∧ Sl w v2 c.s.toNat 7 (fun b o _ => TkS w b o)
def ImpsC (w : World) (v : Value) (F : Cs) : Prop := Sl w v F.length 3 fun b o i => ImpC w b o (at_ F i)
section
variable {w w2 : World} {b o : Nat} {v : Value}
theorem TkR.kept (h : TkR w b o) (k : Kept w w2) : TkR w2 b o := by
  obtain ⟨h1, h2, h3, h4, h5, h6⟩ := h
  exact ⟨k.cell h1, k.cell h2, k.cell h3, k.cell h4, k.cell h5, k.cell h6⟩
theorem TkS.kept (h : TkS w b o) (k : Kept w w2) : TkS w2 b o := ⟨k.cell h.1, h.2.kept k⟩
theorem TkL.kept {op : Bool} (h : TkL w b o op) (k : Kept w w2) : TkL w2 b o op := by
  obtain ⟨h, r⟩ := h
  refine ⟨?_, r.kept k⟩
  rcases h with ⟨h1, h2⟩ | ⟨h1, q, a, c, h2, h3, h4⟩
  · exact .inl ⟨h1, k.cell h2⟩
  · exact .inr ⟨h1, q, a, c, k.cell h2, k.cell h3, h4⟩
theorem ImpC.kept {c : Cnd} (h : ImpC w b o c) (k : Kept w w2) : ImpC w2 b o c := by
  obtain ⟨v1, v2, h0, h1, h2, h3, h4⟩ := h
  exact ⟨v1, v2, k.cell h0, k.cell h1, k.cell h2, Sl.mono h3 k.size fun _ _ _ _ q => q.kept k, Sl.mono h4 k.size fun _ _ _ _ q => q.kept k⟩
theorem ImpsC.kept {F : Cs} (h : ImpsC w v F) (k : Kept w w2) : ImpsC w2 v F := Sl.mono h k.size fun _ _ _ _ q => q.kept k
end
theorem ImpsC.at_ {w : World} {F : Cs} {a : Option Addr} {m c : Nat} (h : ImpsC w (.slice a m c) F) {k : Nat} (hk : k < F.length) : ∃ b off, a = some ⟨b, off, none⟩ ∧ b < w.heap.size ∧ ImpC w b (off + k * 3) (at_ F k) := Sl.at_ h hk

/-- rules: a nest of known at-rules, their tokens from the outside in, and n charset rules at the bottom -/
def Ch (w : World) (n : Nat) : List ByteArray → Value → Prop
  | [], v => Sl w v n 2 fun b o _ => (∃ p, w.cell? ⟨b, o, none⟩ = some (.iface 70 (.pointer p))) ∧ w.cell? ⟨b, o + 1, none⟩ = some (.int .i32 0)
  | s :: r, v => ∃ b q pre v', v = .slice (some ⟨b, 0, none⟩) 1 1 ∧ b < w.heap.size ∧ w.cell? ⟨b, 0, none⟩ = some (.iface 62 (.pointer (some ⟨q, 0, none⟩))) ∧ w.cell? ⟨b, 1, none⟩ = some (.int .i32 0) ∧
      w.cell? ⟨q, 0, none⟩ = some (.string s) ∧ w.cell? ⟨q, 1, none⟩ = some pre ∧ w.cell? ⟨q, 2, none⟩ = some v' ∧ w.cell? ⟨q, 3, none⟩ = some (.int .i32 0) ∧ Ch w n r v'
theorem Ch.kept {w w2 : World} {n : Nat} (k : Kept w w2) : ∀ {l : List ByteArray} {v : Value}, Ch w n l v → Ch w2 n l v := by
  intro l
  induction l with
  | nil => intro v h; exact Sl.mono h k.size fun _ _ _ _ q => ⟨by obtain ⟨p, hp⟩ := q.1; exact ⟨p, k.cell hp⟩, k.cell q.2⟩
  | cons s r ih =>
    intro v h
    obtain ⟨b, q, pre, v', e, hb, h1, h2, h3, h4, h5, h6, h7⟩ := h
    exact ⟨b, q, pre, v', e, Nat.lt_of_lt_of_le hb k.size, k.cell h1, k.cell h2, k.cell h3, k.cell h4, k.cell h5, k.cell h6, ih h7⟩
/-- how many rules lie on the top -/
def top (n : Nat) : List ByteArray → Nat
  | [] => n
  | _ :: _ => 1
theorem Ch.form {w : World} {n : Nat} {l : List ByteArray} {v : Value} (h : Ch w n l v) : ∃ a c, v = .slice a (top n l) c ∧ top n l ≤ c ∧ c ≤ 9223372036854775807 := by
  cases l with
  | nil =>
    obtain ⟨a, c, e, h1, h2, _⟩ := Sl.len h
    exact ⟨a, c, e, h1, h2⟩
  | cons s r =>
    obtain ⟨b, q, pre, v', e, _⟩ := h
    exact ⟨_, _, e, Nat.le_refl _, by decide⟩
theorem Ch.nil (w : World) : Ch w 0 [] (.slice none 0 0) := Sl.nil _ _ _

/-! ### what the wrappers come to -/
def lyr : ByteArray := ⟨#[108, 97, 121, 101, 114]⟩
def sup : ByteArray := ⟨#[115, 117, 112, 112, 111, 114, 116, 115]⟩
def stepL (n : Nat) (l : List ByteArray) (op : Bool) : List ByteArray := if top n l = 0 ∧ op = false then l else lyr :: l
def stepS (n : Nat) (l : List ByteArray) : List ByteArray := if top n l = 0 then l else sup :: l
def layers (n : Nat) (l : List ByteArray) (bs : List Bool) : List ByteArray := bs.foldl (stepL n) l
def sups (n : Nat) (l : List ByteArray) : Nat → List ByteArray
  | 0 => l
  | k + 1 => stepS n (sups n l k)
def cond (n : Nat) (l : List ByteArray) (c : Cnd) : List ByteArray := sups n (layers n l c.L) c.s.toNat
/-- the conditions from the last down to the k-th are laid -/
def down (n : Nat) (F : Cs) (k : Nat) : List ByteArray := (F.drop k).foldr (fun c l => cond n l c) []
theorem layers_step (n : Nat) (l : List ByteArray) (bs : List Bool) {k : Nat} (hk : k < bs.length) : layers n l (bs.take (k + 1)) = stepL n (layers n l (bs.take k)) (bs.getD k false) := by
  unfold layers
  rw [List.take_succ_eq_append_getElem hk, List.foldl_append]
  simp [hk]
theorem down_step (n : Nat) (F : Cs) {k : Nat} (hk : k < F.length) : down n F k = cond n (down n F (k + 1)) (at_ F k) := by
  unfold down at_
  rw [List.drop_eq_getElem_cons hk, List.foldr_cons]
  simp [hk]
theorem down_end (n : Nat) (F : Cs) : down n F F.length = [] := by unfold down; simp
theorem sups_none {n : Nat} {l : List ByteArray} (h : top n l = 0) : ∀ k, sups n l k = l := by
  intro k
  induction k with
  | zero => rfl
  | succ k ih => show stepS n (sups n l k) = l; rw [ih]; unfold stepS; rw [if_pos h]
theorem sups_some {n : Nat} {l : List ByteArray} (h : top n l ≠ 0) : ∀ k, top n (sups n l k) ≠ 0 := by
  intro k
  induction k with
  | zero => exact h
  | succ k ih => show top n (stepS n (sups n l k)) ≠ 0; unfold stepS; rw [if_neg ih]; simp [top]
end Go.Proofs.Ytimllpocefbcbaa.wr
