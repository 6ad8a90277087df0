/-
  The first law's function in pieces over this seat's program; what lies in memory behind the call.
  Conditions: none.
-/
import Derived.Test.YtknmcbhcbomjmaaXn
import Derived.Deep.MidRow
namespace Go.Proofs.Ytknmcbhcbomjmaa.xs
open Go.ChangeShapes Go.WideShapes Go.ChangeAt Go.RowKit
open kit
open Go.Maps (Keyed)
open Go.ChangeMaps (setBlock)

/-- the block of that number in a code -/
def blkAt (n : Nat) : Code → Option Code
  | .block k c => if k = n then some (.block k c) else blkAt n c
  | .loop c => blkAt n c
  | .seq a b => match blkAt n a with
    | some c => some c
    | none => blkAt n b
  | .scope c => blkAt n c
  | .cond _ a b => match blkAt n a with
    | some c => some c
    | none => blkAt n b
  | _ => none
noncomputable def pieceK : Code := (Try.f3.body.bind (blkAt 10)).getD .skip
noncomputable def pieceH : Code := (Try.f3.body.bind (blkAt 12)).getD .skip
noncomputable def pieceJ : Code := (Try.f3.body.bind (blkAt 8)).getD .skip
noncomputable def pieceW : Code := (Try.f3.body.bind (blkAt 0)).getD .skip

theorem ambV_at : ∀ (l : List (Nat × Nat)) (k i : Nat), k < l.length → i < 5 → (ambV l)[k * 5 + i]? = (imp (l.getD k (0, 0)).1 (l.getD k (0, 0)).2)[i]? := by
  intro l
  induction l with
  | nil => intro k i h; exact absurd h (by simp)
  | cons q l ih =>
    intro k i hk hi
    show (imp q.1 q.2 ++ ambV l)[k * 5 + i]? = _
    have hl : (imp q.1 q.2).length = 5 := rfl
    cases k with
    | zero => rw [List.getElem?_append_left (by omega)]; simp
    | succ k =>
      rw [List.getElem?_append_right (by omega), hl, show (k + 1) * 5 + i - 5 = k * 5 + i by omega, ih k i (by simpa using hk) hi]
      simp
theorem eqIn44 (W : World) (a b c d : Int) : (Op.equalIn 10000 44 (.agg #[.int .u32 a, .int .u32 b]) (.agg #[.int .u32 c, .int .u32 d])).run Try.prog W = .ok (a == c && b == d) W := by
  by_cases h1 : a = c
  · subst h1
    by_cases h2 : b = d
    · subst h2
      go_simp
    · have h3 : (b == d) = false := by simpa using h2
      go_simp
  · have h3 : (a == c) = false := by simpa using h1
    go_simp
theorem neq44 (W : World) (a b : Int) : (binOp .neq 44 (.agg #[.int .u32 a, .int .u32 b]) (.agg #[.int .u32 a, .int .u32 b])).run Try.prog W = .ok (.bool false) W := by
  rw [run_neq_struct, eqIn44]
  simp [Result.andThen]
/-- the files' targets and their kinds -/
def vt (fs : List EF) (i : Nat) : List Nat := vsf (fs.getD i default).sr (fs.getD i default).sr.length
def cjF (fs : List EF) (i : Nat) : Bool := ekF fs i == 1
def InF (fs : List EF) (s v : Nat) : Prop := In (vt fs) (cjF fs) s v
def exNE (fs : List EF) (i : Nat) (x : ByteArray) : Prop := (NEf fs i x).isSome = true
/-- what lies in memory behind the call -/
structure Aft (w3 : World) (fs : List EF) (n s b off rb RES B0 : Nat) (J IB : Nat → Nat) (V : ByteArray → Value) (ρ : ByteArray → Option Ent) (R : Nat) (β : Nat → Nat × Nat → Bool) (bn : Nat → Nat) : Prop where
  files : ∀ i, i < n → FileAt w3 b (off + i * 3) (fs.getD i default)
  repr : ∀ i, i < n → w3.cell? ⟨rb, i, none⟩ = some (.pointer (some ⟨J i, 0, none⟩))
  bind : ∀ i, i < n → w3.cell? ⟨J i, 1, none⟩ = some (.map (some (IB i)))
  res : mapf.MapF Try.prog 9 w3 RES R (resV V ρ)
  amb : ∀ a e, ρ a = some e → w3.ownsRow B0 53 5 (V a) e.amb.length (ambV e.amb) ∧ e.amb.length ≤ 100000
  bnd : ∀ i, i < n → mapf.MapF Try.prog 44 w3 (IB i) (bn i) (bndV (β i))
  ent : ∀ a e, ρ a = some e → InF fs s e.src ∧ e.src < n ∧ NEf fs e.src a = some e.j ∧ ∀ q ∈ e.amb, q.1 ≠ e.src ∧ InF fs s q.1 ∧ q.1 < n ∧ NEf fs q.1 a = some q.2
  hold : ∀ a e, ρ a = some e → ∃ i, (i = s ∨ InF fs s i) ∧ i < n ∧ β i (e.src, e.j) = true ∧ ∀ i2, β i2 (e.src, e.j) = true → i2 = i
  is : ∀ a, (ρ a).isSome = true ↔ a ≠ dflt ∧ ¬ exNE fs s a ∧ ∃ v, InF fs s v ∧ v < n ∧ exNE fs v a
  sum : ((List.range n).map bn).sum = R
  fit : Fit n fs
  sn : s < n
  str : ∀ i, i < n → ∀ x ∈ exF fs i, x.size ≤ maxLen
end Go.Proofs.Ytknmcbhcbomjmaa.xs
