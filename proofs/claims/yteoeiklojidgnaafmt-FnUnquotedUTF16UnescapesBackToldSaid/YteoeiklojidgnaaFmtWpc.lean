/-
  The pieces of printUnquotedUTF16 over this seat's program (the switch over a unit, its default arm), and what a round starts from and ends in.
  Conditions: none.
-/
import Derived.Test.YteoeiklojidgnaaFmtWst
namespace Go.Proofs.YteoeiklojidgnaaFmt.uw
open Go.ChangeShapes Go.WideShapes Go.ChangeAt Go.RowKit
open kit pr uq

/-- the block of that number in a code -/
def blkAt (n : Nat) : Code → Option Code
  | .block k c => if k = n then some (.block k c) else blkAt n c
  | .loop c => blkAt n c
  | .seq a b => match blkAt n a with
    | some c => some c
    | none => blkAt n b
  | .scope c => blkAt n c
  | .cond _ a b => match blkAt n a with
    | some c => some c
    | none => blkAt n b
  | _ => none
noncomputable def pieceS : Code := (Tryf.f15.body.bind (blkAt 2)).getD .skip
noncomputable def pieceD : Code := (Tryf.f15.body.bind (blkAt 3)).getD .skip
noncomputable def pieceJ : Code := (Tryf.f15.body.bind (blkAt 4)).getD .skip

/-- the text of n units lies in memory -/
def Tx (w : World) (tb to : Nat) (U : List Int) : Prop := (∀ k, k < U.length → w.cell? ⟨tb, to + k, none⟩ = some (.int .u16 (U.getD k 0))) ∧ ∀ k, k < U.length → 0 ≤ U.getD k 0 ∧ U.getD k 0 < 65536
theorem Tx.at_ {w W : World} {tb to : Nat} {U : List Int} (h : Tx w tb to U) (k : Kept w W) {j : Nat} {c : Int} (hc : U[j]? = some c) : W.cell? ⟨tb, to + j, none⟩ = some (.int .u16 c) ∧ 0 ≤ c ∧ c < 65536 := by
  obtain ⟨hl, e⟩ := List.getElem?_eq_some_iff.1 hc
  have e2 : U.getD j 0 = c := by simp [hl, e]
  rw [← e2]
  exact ⟨k.cell (h.1 j hl), h.2 j hl⟩

/-- what the loop over the units keeps -/
def Rel (lo : Nat) (U L0 : List Int) (w0 : World) (g q : Nat) (cs : List Value) (t9 t10 t12 : Value) (W : World) : Prop :=
  ∃ (i : Nat) (T : List Tok) (A : Option Addr) (n c : Nat) (s : Int), lo ≤ i ∧ i ≤ U.length ∧ At U i T ∧ t9 = .slice A n c ∧ t10 = .int .i64 (i : Int) ∧ t12 = .int .i64 s ∧ -(i : Int) ≤ s ∧ s ≤ 2097152 ∧ SN w0 g q cs W A n c (L0 ++ bytesT T)

/-- what the switch starts from: unit i is read, its line's end laid or not -/
structure Pre (U L0 : List Int) (w0 : World) (g q : Nat) (cs : List Value) (i : Nat) (T : List Tok) (b : Bool) (cu : Int) (A : Option Addr) (n c : Nat) (s : Int) (W : World) : Prop where
  at_ : At U i T
  hc : U[i]? = some cu
  lo : -(i : Int) ≤ s
  hi : s ≤ 2097152
  sn : SN w0 g q cs W A n c (L0 ++ bytesT (T ++ lead b))
  bd : L0.length ≤ 1048576
  hU : U.length ≤ 1048576
section
variable {U L0 : List Int} {w0 W W2 : World} {g q : Nat} {cs : List Value} {i : Nat} {T : List Tok} {b : Bool} {cu : Int} {A A2 : Option Addr} {n c n2 c2 : Nat} {s : Int}
theorem Pre.lt (h : Pre U L0 w0 g q cs i T b cu A n c s W) : i < U.length := (List.getElem?_eq_some_iff.1 h.hc).1
theorem Pre.len (h : Pre U L0 w0 g q cs i T b cu A n c s W) : (L0 ++ bytesT (T ++ lead b)).length ≤ 16000000 := by
  have := h.at_.size
  have := h.lt
  have := h.hU
  have := h.bd
  have e : (bytesT (T ++ lead b)).length ≤ (bytesT T).length + 2 := by
    cases b
    · simp [lead]
    · rw [show lead true = [.cont] from rfl, bytesT_snoc]; simp [Tok.bytes]
  rw [List.length_append]
  omega
theorem Pre.len1 (h : Pre U L0 w0 g q cs i T b cu A n c s W) (x : List Int) (hx : x.length ≤ 100) : (L0 ++ bytesT (T ++ lead b) ++ x).length ≤ 1099511627000 := by
  have := h.len
  rw [List.length_append]
  omega
/-- a round that lays one token -/
theorem Pre.one (h : Pre U L0 w0 g q cs i T b cu A n c s W) (t : Tok) (hv : t.valid) (hu : t.units = [cu]) (hd : t.nodig ∨ t = .raw cu) (hl : t = .nul → ∀ d, U[i + 1]? = some d → ¬ dig d) {M : List Int} {s2 : Int}
    (hs : SN w0 g q cs W2 A2 n2 c2 M) (hM : M = L0 ++ bytesT (T ++ lead b) ++ t.bytes) (h1 : -((i + 1 : Nat) : Int) ≤ s2) (h2 : s2 ≤ 2097152) :
    Rel (i + 1) U L0 w0 g q cs (.slice A2 n2 c2) (.int .i64 ((i + 1 : Nat) : Int)) (.int .i64 s2) W2 := by
  refine ⟨i + 1, T ++ lead b ++ [t], A2, n2, c2, s2, Nat.le_refl _, h.lt, h.at_.one b h.hc t hv hu hd hl, rfl, rfl, rfl, h1, h2, ?_⟩
  rw [bytesT_snoc, ← List.append_assoc, ← hM]
  exact hs
/-- a round that lays what a pair of units denotes -/
theorem Pre.pair (h : Pre U L0 w0 g q cs i T b cu A n c s W) {k : Nat} (hk : k = i + 1) {d : Int} (hd : U[k]? = some d) (ts : List Tok) (ht : ∀ t ∈ ts, t.valid ∧ t.nodig ∧ t ≠ .nul) (hne : ts ≠ []) (hu : unitsT ts = [cu, d]) (hb : (bytesT ts).length ≤ 12) {M : List Int}
    (hs : SN w0 g q cs W2 A2 n2 c2 M) (hM : M = L0 ++ bytesT (T ++ lead b) ++ bytesT ts) :
    Rel (i + 1) U L0 w0 g q cs (.slice A2 n2 c2) (.int .i64 ((k : Int) + 1)) (.int .i64 s) W2 := by
  subst hk
  have hlt := (List.getElem?_eq_some_iff.1 hd).1
  have hok : Ok ts := fun k t hk => by
    have := ht t (List.mem_of_getElem? hk)
    exact ⟨this.1, fun e => absurd e this.2.2⟩
  have hnl : ts.getLast? ≠ some .nul := fun e => (ht .nul (List.mem_of_getLast? e)).2.2 rfl
  refine ⟨i + 2, T ++ lead b ++ ts, A2, n2, c2, s, by omega, hlt, h.at_.pair b h.hc hd ts hok (fun t e => (ht t (List.mem_of_getElem? e)).2.1) hnl hne hu hb, rfl, by congr 1, rfl, by have := h.lo; omega, h.hi, ?_⟩
  have e : bytesT (T ++ lead b ++ ts) = bytesT (T ++ lead b) ++ bytesT ts := by simp [bytesT]
  rw [e, ← List.append_assoc, ← hM]
  exact hs
end
end Go.Proofs.YteoeiklojidgnaaFmt.uw
