/-
  The files as they came in over this seat's program.
  Conditions: the files are readable.
-/
import Derived.Test.YtknmcbhcbomjmaaTurn
import Derived.LoopTactic
import Derived.Outline
import Derived.IntWalk
namespace Go.Proofs.Ytknmcbhcbomjmaa.xs
open Go.ChangeShapes Go.WideShapes Go.ChangeAt Go.RowKit
open kit

/-- one file as it came in: its kind, its exports' names, its stars, and the slices that they lie in -/
structure EF where
  ek : Int
  ex : List ByteArray
  sr : List Int
  a : Option Addr
  c : Nat
  a2 : Option Addr
  c2 : Nat
instance : Inhabited EF := ⟨⟨0, [], [], none, 0, none, 0⟩⟩
def FileAt (w : World) (b o : Nat) (f : EF) : Prop :=
  w.cell? ⟨b, o, none⟩ = some (.int .u8 f.ek) ∧ w.cell? ⟨b, o + 1, none⟩ = some (.slice f.a f.ex.length f.c) ∧ w.cell? ⟨b, o + 2, none⟩ = some (.slice f.a2 f.sr.length f.c2) ∧
  Row w f.a f.ex.length f.c (f.ex.map Value.string) ∧ Row w f.a2 f.sr.length f.c2 (f.sr.map (Value.int .i32))
def Fs (w : World) (a : Option Addr) (n : Nat) (fs : List EF) : Prop :=
  fs.length = n ∧ (0 < n → ∃ b off, a = some ⟨b, off, none⟩ ∧ b < w.heap.size ∧ ∀ i, i < n → FileAt w b (off + i * 3) (fs.getD i default)) ∧
  ∀ f ∈ fs, (0 ≤ f.ek ∧ f.ek ≤ 255) ∧ (∀ x ∈ f.ex, x.size ≤ maxLen) ∧ ∀ x ∈ f.sr, -2147483648 ≤ x ∧ x ≤ 2147483647
theorem FileAt.kept {w w2 : World} {b o : Nat} {f : EF} (h : FileAt w b o f) (k : Kept w w2) : FileAt w2 b o f :=
  ⟨k.cell h.1, k.cell h.2.1, k.cell h.2.2.1, h.2.2.2.1.kept k, h.2.2.2.2.kept k⟩
theorem Fs.kept {w w2 : World} {a : Option Addr} {n : Nat} {fs : List EF} (h : Fs w a n fs) (k : Kept w w2) : Fs w2 a n fs :=
  ⟨h.1, fun hn => by
    obtain ⟨b, off, e, hb, hc⟩ := h.2.1 hn
    exact ⟨b, off, e, Nat.lt_of_lt_of_le hb k.size, fun i hi => (hc i hi).kept k⟩, h.2.2⟩
theorem Fs.at_ {w : World} {a : Option Addr} {n : Nat} {fs : List EF} (h : Fs w a n fs) {k : Nat} (hk : k < n) : ∃ b off, a = some ⟨b, off, none⟩ ∧ b < w.heap.size ∧ FileAt w b (off + k * 3) (fs.getD k default) := by
  obtain ⟨b, off, e, hb, hc⟩ := h.2.1 (by omega)
  exact ⟨b, off, e, hb, hc k hk⟩
theorem Fs.mem {w : World} {a : Option Addr} {n : Nat} {fs : List EF} (h : Fs w a n fs) {k : Nat} (hk : k < n) : fs.getD k default ∈ fs := by
  have hl := h.1
  rw [List.getD_eq_getElem?_getD, List.getElem?_eq_getElem (by omega)]
  exact List.getElem_mem _
end Go.Proofs.Ytknmcbhcbomjmaa.xs
