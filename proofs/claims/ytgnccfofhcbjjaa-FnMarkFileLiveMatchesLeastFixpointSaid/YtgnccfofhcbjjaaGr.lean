/-
  Files, parts, records and dependencies as plain content, and how they are read in memory; over this seat's program.
  Conditions: none.
-/
import Derived.Test.YtgnccfofhcbjjaaBlk
import Derived.Test.YtgnccfofhcbjjaaDfs
namespace Go.Proofs.Ytgnccfofhcbjjaa.lk
open Go.ChangeShapes Go.WideShapes Go.ChangeAt Go.RowKit
open kit dfs

structure Rec where
  tgt : Int
  kind : Nat
  ext : Bool
instance : Inhabited Rec := ⟨⟨-1, 0, false⟩⟩
structure Prt where
  recs : List Nat
  deps : List (Nat × Nat)
  rem : Bool
  force : Bool
instance : Inhabited Prt := ⟨⟨[], [], false, false⟩⟩
structure Fil where
  css : Int
  side : Bool
  live : Bool
  recs : List Rec
  parts : List Prt
instance : Inhabited Fil := ⟨⟨-1, false, false, [], []⟩⟩
abbrev Ct := List Fil
def fl (F : Ct) (i : Nat) : Fil := F.getD i default
def rcd (R : List Rec) (i : Nat) : Rec := R.getD i default
def prt (P : List Prt) (i : Nat) : Prt := P.getD i default
def nat (R : List Nat) (i : Nat) : Nat := R.getD i 0
def dep (R : List (Nat × Nat)) (i : Nat) : Nat × Nat := R.getD i (0, 0)

/-- v is a slice of n elements of that many cells; Q tells of each what lies at its place -/
def Sl (w : World) (v : Value) (n size : Nat) (Q : Nat → Nat → Nat → Prop) : Prop :=
  ∃ a c, v = .slice a n c ∧ n ≤ c ∧ c ≤ maxLen ∧ (a = none → c = 0) ∧ (0 < n → ∃ b off, a = some ⟨b, off, none⟩ ∧ b < w.heap.size ∧ ∀ i, i < n → Q b (off + i * size) i)
section
variable {w w2 : World} {v : Value} {n size : Nat} {Q Q2 : Nat → Nat → Nat → Prop}
theorem Sl.mono (h : Sl w v n size Q) (hs : w.heap.size ≤ w2.heap.size) (hq : ∀ b o i, i < n → Q b o i → Q2 b o i) : Sl w2 v n size Q2 := by
  obtain ⟨a, c, h1, h2, h3, h4, h5⟩ := h
  refine ⟨a, c, h1, h2, h3, h4, fun hn => ?_⟩
  obtain ⟨b, off, e, hb, h6⟩ := h5 hn
  exact ⟨b, off, e, Nat.lt_of_lt_of_le hb hs, fun i hi => hq _ _ _ hi (h6 i hi)⟩
theorem Sl.len (h : Sl w v n size Q) : ∃ a c, v = .slice a n c ∧ n ≤ c ∧ c ≤ 9223372036854775807 ∧ (a = none → n = 0) := by
  obtain ⟨a, c, h1, h2, h3, h4, _⟩ := h
  unfold maxLen at h3
  exact ⟨a, c, h1, h2, by omega, fun e => by have := h4 e; omega⟩
theorem Sl.at_ {a : Option Addr} {m c : Nat} (h : Sl w (.slice a m c) n size Q) {k : Nat} (hk : k < n) : ∃ b off, a = some ⟨b, off, none⟩ ∧ b < w.heap.size ∧ Q b (off + k * size) k := by
  obtain ⟨a', c', h1, _, _, _, h5⟩ := h
  injection h1 with e1 _ _
  subst e1
  obtain ⟨b, off, e, hb, h6⟩ := h5 (by omega)
  exact ⟨b, off, e, hb, h6 k hk⟩
theorem Sl.nil (w : World) (size : Nat) (Q : Nat → Nat → Nat → Prop) : Sl w (.slice none 0 0) 0 size Q := ⟨none, 0, rfl, Nat.le_refl _, Nat.zero_le _, fun _ => rfl, fun h => absurd h (by omega)⟩
end

def RecC (w : World) (b o : Nat) (r : Rec) : Prop :=
  w.cell? ⟨b, o, none⟩ = some (.int .i32 r.tgt) ∧ w.cell? ⟨b, o + 1, none⟩ = some (.int .u8 (r.kind : Int)) ∧ w.cell? ⟨b, o + 2, none⟩ = some (.bool r.ext) ∧ -2147483648 ≤ r.tgt ∧ r.tgt ≤ 2147483647 ∧ r.kind ≤ 255
def U32C (w : World) (b o : Nat) (x : Nat) : Prop := w.cell? ⟨b, o, none⟩ = some (.int .u32 (x : Int)) ∧ x ≤ 4294967295
def DepC (w : World) (b o : Nat) (d : Nat × Nat) : Prop := w.cell? ⟨b, o, none⟩ = some (.int .u32 (d.1 : Int)) ∧ w.cell? ⟨b, o + 1, none⟩ = some (.int .u32 (d.2 : Int)) ∧ d.1 ≤ 4294967295 ∧ d.2 ≤ 4294967295
def RecsC (w : World) (v : Value) (R : List Rec) : Prop := Sl w v R.length 3 fun b o i => RecC w b o (rcd R i)
def U32sC (w : World) (v : Value) (R : List Nat) : Prop := Sl w v R.length 1 fun b o i => U32C w b o (nat R i)
def DepsC (w : World) (v : Value) (R : List (Nat × Nat)) : Prop := Sl w v R.length 2 fun b o i => DepC w b o (dep R i)
def PartC (w : World) (b o : Nat) (p : Prt) : Prop :=
  ∃ rv dv, w.cell? ⟨b, o, none⟩ = some rv ∧ w.cell? ⟨b, o + 1, none⟩ = some dv ∧ w.cell? ⟨b, o + 2, none⟩ = some (.bool p.rem) ∧ w.cell? ⟨b, o + 3, none⟩ = some (.bool p.force) ∧ U32sC w rv p.recs ∧ DepsC w dv p.deps
def PartsC (w : World) (v : Value) (P : List Prt) : Prop := Sl w v P.length 4 fun b o i => PartC w b o (prt P i)
def FileC (w : World) (b o : Nat) (f : Fil) : Prop :=
  ∃ rv pv, w.cell? ⟨b, o, none⟩ = some (.int .i32 f.css) ∧ w.cell? ⟨b, o + 1, none⟩ = some (.bool f.side) ∧ w.cell? ⟨b, o + 2, none⟩ = some (.bool f.live) ∧ w.cell? ⟨b, o + 3, none⟩ = some rv ∧ w.cell? ⟨b, o + 4, none⟩ = some pv ∧
    (-2147483648 ≤ f.css ∧ f.css ≤ 2147483647) ∧ RecsC w rv f.recs ∧ PartsC w pv f.parts
def FilesC (w : World) (v : Value) (F : Ct) : Prop := Sl w v F.length 5 fun b o i => FileC w b o (fl F i)
section
variable {w w2 : World} {v : Value} {b o : Nat}
theorem RecC.kept {r : Rec} (h : RecC w b o r) (k : Kept w w2) : RecC w2 b o r := ⟨k.cell h.1, k.cell h.2.1, k.cell h.2.2.1, h.2.2.2⟩
theorem U32C.kept {x : Nat} (h : U32C w b o x) (k : Kept w w2) : U32C w2 b o x := ⟨k.cell h.1, h.2⟩
theorem DepC.kept {x : Nat × Nat} (h : DepC w b o x) (k : Kept w w2) : DepC w2 b o x := ⟨k.cell h.1, k.cell h.2.1, h.2.2⟩
theorem RecsC.kept {R : List Rec} (h : RecsC w v R) (k : Kept w w2) : RecsC w2 v R := Sl.mono h k.size fun _ _ _ _ q => RecC.kept q k
theorem U32sC.kept {R : List Nat} (h : U32sC w v R) (k : Kept w w2) : U32sC w2 v R := Sl.mono h k.size fun _ _ _ _ q => U32C.kept q k
theorem DepsC.kept {R : List (Nat × Nat)} (h : DepsC w v R) (k : Kept w w2) : DepsC w2 v R := Sl.mono h k.size fun _ _ _ _ q => DepC.kept q k
theorem PartC.kept {p : Prt} (h : PartC w b o p) (k : Kept w w2) : PartC w2 b o p := by
  obtain ⟨rv, dv, h1, h2, h3, h4, h5, h6⟩ := h
  exact ⟨rv, dv, k.cell h1, k.cell h2, k.cell h3, k.cell h4, U32sC.kept h5 k, DepsC.kept h6 k⟩
theorem PartsC.kept {P : List Prt} (h : PartsC w v P) (k : Kept w w2) : PartsC w2 v P := Sl.mono h k.size fun _ _ _ _ q => PartC.kept q k
theorem FileC.kept {f : Fil} (h : FileC w b o f) (k : Kept w w2) : FileC w2 b o f := by
  obtain ⟨rv, pv, h1, h2, h3, h4, h5, h6, h7, h8⟩ := h
  exact ⟨rv, pv, k.cell h1, k.cell h2, k.cell h3, k.cell h4, k.cell h5, h6, RecsC.kept h7 k, PartsC.kept h8 k⟩
theorem FilesC.kept {F : Ct} (h : FilesC w v F) (k : Kept w w2) : FilesC w2 v F := Sl.mono h k.size fun _ _ _ _ q => FileC.kept q k
/-- one file -/
theorem FilesC.at_ {F : Ct} {a : Option Addr} {m c : Nat} (h : FilesC w (.slice a m c) F) {k : Nat} (hk : k < F.length) : ∃ b off, a = some ⟨b, off, none⟩ ∧ b < w.heap.size ∧
    ∃ ra rc pa pc, w.cell? ⟨b, off + k * 5, none⟩ = some (.int .i32 (fl F k).css) ∧ w.cell? ⟨b, off + k * 5 + 1, none⟩ = some (.bool (fl F k).side) ∧ w.cell? ⟨b, off + k * 5 + 2, none⟩ = some (.bool (fl F k).live) ∧
      w.cell? ⟨b, off + k * 5 + 3, none⟩ = some (.slice ra (fl F k).recs.length rc) ∧ w.cell? ⟨b, off + k * 5 + 4, none⟩ = some (.slice pa (fl F k).parts.length pc) ∧ (-2147483648 ≤ (fl F k).css ∧ (fl F k).css ≤ 2147483647) ∧
      ((fl F k).recs.length ≤ rc ∧ rc ≤ 9223372036854775807 ∧ (ra = none → (fl F k).recs.length = 0)) ∧ ((fl F k).parts.length ≤ pc ∧ pc ≤ 9223372036854775807 ∧ (pa = none → (fl F k).parts.length = 0)) ∧
      RecsC w (.slice ra (fl F k).recs.length rc) (fl F k).recs ∧ PartsC w (.slice pa (fl F k).parts.length pc) (fl F k).parts := by
  obtain ⟨b, off, h1, h2, rv, pv, h5, h6, h7, h8, h9, h10, h11, h12⟩ := Sl.at_ h hk
  obtain ⟨ra, rc, rfl, r⟩ := Sl.len h11
  obtain ⟨pa, pc, rfl, p⟩ := Sl.len h12
  exact ⟨b, off, h1, h2, ra, rc, pa, pc, h5, h6, h7, h8, h9, h10, r, p, h11, h12⟩
/-- one part -/
theorem PartsC.at_ {P : List Prt} {a : Option Addr} {m c : Nat} (h : PartsC w (.slice a m c) P) {k : Nat} (hk : k < P.length) : ∃ b off, a = some ⟨b, off, none⟩ ∧ b < w.heap.size ∧
    ∃ ra rc da dc, w.cell? ⟨b, off + k * 4, none⟩ = some (.slice ra (prt P k).recs.length rc) ∧ w.cell? ⟨b, off + k * 4 + 1, none⟩ = some (.slice da (prt P k).deps.length dc) ∧
      w.cell? ⟨b, off + k * 4 + 2, none⟩ = some (.bool (prt P k).rem) ∧ w.cell? ⟨b, off + k * 4 + 3, none⟩ = some (.bool (prt P k).force) ∧
      ((prt P k).recs.length ≤ rc ∧ rc ≤ 9223372036854775807 ∧ (ra = none → (prt P k).recs.length = 0)) ∧ ((prt P k).deps.length ≤ dc ∧ dc ≤ 9223372036854775807 ∧ (da = none → (prt P k).deps.length = 0)) ∧
      U32sC w (.slice ra (prt P k).recs.length rc) (prt P k).recs ∧ DepsC w (.slice da (prt P k).deps.length dc) (prt P k).deps := by
  obtain ⟨b, off, h1, h2, rv, dv, h5, h6, h7, h8, h9, h10⟩ := Sl.at_ h hk
  obtain ⟨ra, rc, rfl, r⟩ := Sl.len h9
  obtain ⟨da, dc, rfl, p⟩ := Sl.len h10
  exact ⟨b, off, h1, h2, ra, rc, da, dc, h5, h6, h7, h8, r, p, h9, h10⟩
end

/-- the lengths inside the first k files are at most m -/
def Len1 (m : Nat) (p : Prt) : Prop := p.recs.length ≤ m ∧ p.deps.length ≤ m
def Lens (F : Ct) (m k : Nat) : Prop := ∀ i, i < k → (fl F i).recs.length ≤ m ∧ (fl F i).parts.length ≤ m ∧ ∀ p, p < (fl F i).parts.length → Len1 m (prt (fl F i).parts p)
theorem Lens.step {F : Ct} {m k : Nat} (h : Lens F m k) (h0 : (fl F k).recs.length ≤ m) (h1 : (fl F k).parts.length ≤ m) (h2 : ∀ p, p < (fl F k).parts.length → Len1 m (prt (fl F k).parts p)) : Lens F m (k + 1) := fun i hi => by
  by_cases e : i = k
  · rw [e]; exact ⟨h0, h1, h2⟩
  · exact h i (by omega)
theorem Lens.mono {F : Ct} {m m2 k : Nat} (h : Lens F m k) (hm : m ≤ m2) : Lens F m2 k := fun i hi =>
  ⟨Nat.le_trans (h i hi).1 hm, Nat.le_trans (h i hi).2.1 hm, fun p hp => ⟨Nat.le_trans ((h i hi).2.2 p hp).1 hm, Nat.le_trans ((h i hi).2.2 p hp).2 hm⟩⟩
/-- file i is sound among n files -/
structure Ok1 (F : Ct) (i : Nat) : Prop where
  css : -1 ≤ (fl F i).css ∧ (fl F i).css < (F.length : Int)
  tgt : ∀ j, j < (fl F i).recs.length → -1 ≤ (rcd (fl F i).recs j).tgt ∧ (rcd (fl F i).recs j).tgt < (F.length : Int)
  idx : ∀ p, p < (fl F i).parts.length → ∀ k, k < (prt (fl F i).parts p).recs.length → nat (prt (fl F i).parts p).recs k < (fl F i).recs.length
  dep : ∀ p, p < (fl F i).parts.length → ∀ k, k < (prt (fl F i).parts p).deps.length → (lk.dep (prt (fl F i).parts p).deps k).1 < F.length ∧ (lk.dep (prt (fl F i).parts p).deps k).2 < (fl F (lk.dep (prt (fl F i).parts p).deps k).1).parts.length
end Go.Proofs.Ytgnccfofhcbjjaa.lk
