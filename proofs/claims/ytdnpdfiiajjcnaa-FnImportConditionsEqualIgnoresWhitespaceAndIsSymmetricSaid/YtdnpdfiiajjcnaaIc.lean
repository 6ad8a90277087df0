/-
  Import conditions with white space flags as plain content, how they are read in memory, and as lkb's builder lays them; over this seat's program.
  Conditions: none.
-/
import Derived.Test.YtdnpdfiiajjcnaaSl
import Derived.Test.YtdnpdfiiajjcnaaMk1
namespace Go.Proofs.Ytdnpdfiiajjcnaa.ic
open Go.ChangeShapes Go.WideShapes Go.ChangeAt Go.RowKit
open kit

structure Icw where
  L : List ByteArray
  lw : List Int
  S : List ByteArray
  sw : List Int
instance : Inhabited Icw := ⟨⟨[], [], [], []⟩⟩
abbrev Ct := List Icw
def at_ (F : Ct) (i : Nat) : Icw := F.getD i default
/-- what the comparison looks at -/
def lits (l : List ByteArray) : List (List UInt8) := l.map ByteArray.toList
def key (c : Icw) : List (List UInt8) × List (List UInt8) := (lits c.L, lits c.S)
def keys (F : Ct) : List (List (List UInt8) × List (List UInt8)) := F.map key
open Classical in
noncomputable def same (F G : Ct) : Bool := decide (keys F = keys G)
theorem same_comm (F G : Ct) : same F G = same G F := by
  unfold same
  by_cases h : keys F = keys G
  · rw [decide_eq_true h, decide_eq_true h.symm]
  · rw [decide_eq_false h, decide_eq_false (fun e => h e.symm)]
theorem same_self (F : Ct) : same F F = true := by unfold same; exact decide_eq_true rfl

def IcC (w : World) (b o : Nat) (c : Icw) : Prop :=
  ∃ a1 c1 a2 c2 a3 c3 a4 c4, w.cell? ⟨b, o, none⟩ = some (.slice a1 c.L.length c1) ∧ w.cell? ⟨b, o + 1, none⟩ = some (.slice a2 c.lw.length c2) ∧ w.cell? ⟨b, o + 2, none⟩ = some (.slice a3 c.S.length c3) ∧ w.cell? ⟨b, o + 3, none⟩ = some (.slice a4 c.sw.length c4) ∧
    Row w a1 c.L.length c1 (c.L.map Value.string) ∧ Row w a2 c.lw.length c2 (c.lw.map (Value.int .u8)) ∧ Row w a3 c.S.length c3 (c.S.map Value.string) ∧ Row w a4 c.sw.length c4 (c.sw.map (Value.int .u8)) ∧
    (∀ z ∈ c.lw, 0 ≤ z ∧ z ≤ 255) ∧ ∀ z ∈ c.sw, 0 ≤ z ∧ z ≤ 255
def IcsC (w : World) (v : Value) (F : Ct) : Prop := Sl w v F.length 4 fun b o i => IcC w b o (at_ F i)
section
variable {w w2 : World} {b o : Nat} {v : Value}
theorem IcC.kept {c : Icw} (h : IcC w b o c) (k : Kept w w2) : IcC w2 b o c := by
  obtain ⟨a1, c1, a2, c2, a3, c3, a4, c4, h1, h2, h3, h4, r1, r2, r3, r4, r⟩ := h
  exact ⟨a1, c1, a2, c2, a3, c3, a4, c4, k.cell h1, k.cell h2, k.cell h3, k.cell h4, r1.kept k, r2.kept k, r3.kept k, r4.kept k, r⟩
theorem IcsC.kept {F : Ct} (h : IcsC w v F) (k : Kept w w2) : IcsC w2 v F := Sl.mono h k.size fun _ _ _ _ q => q.kept k
end
/-- the lengths inside are at most m -/
def Len1 (m : Nat) (c : Icw) : Prop := c.L.length ≤ m ∧ c.lw.length ≤ m ∧ c.S.length ≤ m ∧ c.sw.length ≤ m
def Lens (F : Ct) (m k : Nat) : Prop := ∀ i, i < k → Len1 m (at_ F i)
theorem Lens.step {F : Ct} {m k : Nat} (h : Lens F m k) (h0 : Len1 m (at_ F k)) : Lens F m (k + 1) := fun i hi => by
  by_cases e : i = k
  · rw [e]; exact h0
  · exact h i (by omega)

/-- a token's cells -/
def TkAt (w : World) (b o : Nat) (s : ByteArray) : Prop :=
  w.cell? ⟨b, o, none⟩ = some (.pointer none) ∧ w.cell? ⟨b, o + 1, none⟩ = some (.string s) ∧ w.cell? ⟨b, o + 2, none⟩ = some (.int .i32 0) ∧ w.cell? ⟨b, o + 3, none⟩ = some (.int .u32 0) ∧ w.cell? ⟨b, o + 4, none⟩ = some (.int .u16 0) ∧ w.cell? ⟨b, o + 5, none⟩ = some (.int .u8 29) ∧ ∃ z : Int, w.cell? ⟨b, o + 6, none⟩ = some (.int .u8 z)
/-- a token list -/
def Tk (w : World) (v : Value) (ss : List ByteArray) : Prop := (ss = [] ∧ v = .slice none 0 0) ∨ (0 < ss.length ∧ ∃ b, v = .slice (some ⟨b, 0, none⟩) ss.length ss.length ∧ (∃ cs, Blk w b 49 cs) ∧ ∀ k, k < ss.length → TkAt w b (k * 7) (ss.getD k ByteArray.empty))
def CdAt (w : World) (b o : Nat) (c : Icw) : Prop := ∃ t1 t2, w.cell? ⟨b, o, none⟩ = some (.slice none 0 0) ∧ w.cell? ⟨b, o + 1, none⟩ = some t1 ∧ w.cell? ⟨b, o + 2, none⟩ = some t2 ∧ Tk w t1 c.L ∧ Tk w t2 c.S
/-- a condition list -/
def Cd (w : World) (v : Value) (F : Ct) : Prop := Sl w v F.length 3 fun b o i => CdAt w b o (at_ F i)
section
variable {w w2 : World} {b o : Nat} {v : Value}
theorem TkAt.kept {s : ByteArray} (h : TkAt w b o s) (k : Kept w w2) : TkAt w2 b o s := by
  obtain ⟨h1, h2, h3, h4, h5, h6, z, h7⟩ := h
  exact ⟨k.cell h1, k.cell h2, k.cell h3, k.cell h4, k.cell h5, k.cell h6, z, k.cell h7⟩
theorem Tk.kept {ss : List ByteArray} (h : Tk w v ss) (k : Kept w w2) : Tk w2 v ss := by
  rcases h with h | ⟨h0, b, h1, h2, h3⟩
  · exact .inl h
  · exact .inr ⟨h0, b, h1, (by obtain ⟨cs, hb⟩ := h2; exact ⟨cs, hb.kept k⟩), fun i hi => (h3 i hi).kept k⟩
theorem Tk.form {ss : List ByteArray} (h : Tk w v ss) : ∃ a, v = .slice a ss.length ss.length ∧ (a = none → ss.length = 0) := by
  rcases h with ⟨rfl, rfl⟩ | ⟨h0, b, rfl, _⟩
  · exact ⟨none, rfl, fun _ => rfl⟩
  · exact ⟨_, rfl, fun e => by cases e⟩
theorem CdAt.kept {c : Icw} (h : CdAt w b o c) (k : Kept w w2) : CdAt w2 b o c := by
  obtain ⟨t1, t2, h1, h2, h3, h4, h5⟩ := h
  exact ⟨t1, t2, k.cell h1, k.cell h2, k.cell h3, h4.kept k, h5.kept k⟩
theorem Cd.kept {F : Ct} (h : Cd w v F) (k : Kept w w2) : Cd w2 v F := Sl.mono h k.size fun _ _ _ _ q => q.kept k
end
end Go.Proofs.Ytdnpdfiiajjcnaa.ic
