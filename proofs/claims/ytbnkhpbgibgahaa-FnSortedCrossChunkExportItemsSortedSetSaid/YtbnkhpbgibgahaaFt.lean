/-
  The law's three rows as they lie in memory, and the entries that they spell.
  Conditions: none.
-/
import Derived.Test.YtbnkhpbgibgahaaEt
import Derived.Test.YtbnkhpbgibgahaaWc
namespace Go.Proofs.Ytbnkhpbgibgahaa.es
open Go.ChangeShapes Go.WideShapes Go.ChangeAt Go.RowKit
open kit ms fl rf

def ent3 (S P Q : List Int) (k : Nat) : En := ⟨S.getD (P.getD k 0).toNat 0, P.getD k 0, Q.getD k 0⟩
def ents (S P Q : List Int) (n : Nat) : List En := (List.range n).map (ent3 S P Q)
theorem ents_length (S P Q : List Int) (n : Nat) : (ents S P Q n).length = n := by simp [ents]
theorem ents_at (S P Q : List Int) {n k : Nat} (hk : k < n) : (ents S P Q n)[k]? = some (ent3 S P Q k) := by simp [ents, hk]
theorem ents_succ (S P Q : List Int) (k : Nat) : ents S P Q (k + 1) = ents S P Q k ++ [ent3 S P Q k] := by simp [ents, List.range_succ]
theorem ents_mem {S P Q : List Int} {n : Nat} {e : En} : e ∈ ents S P Q n ↔ ∃ k, k < n ∧ e = ent3 S P Q k := by
  unfold ents
  rw [List.mem_map]
  constructor
  · rintro ⟨k, hk, rfl⟩
    exact ⟨k, by simpa using hk, rfl⟩
  · rintro ⟨k, hk, rfl⟩
    exact ⟨k, by simpa using hk, rfl⟩

/-- the three rows lie in memory; the first n of the second and third are readable, the second's within the first -/
structure Inp (w : World) (A B C : Option Addr) (lS lP lQ cS cP cQ : Nat) (S P Q : List Int) (n : Nat) : Prop where
  rS : Row w A lS cS (S.map (Value.int .u32))
  rP : Row w B lP cP (P.map (Value.int .u32))
  rQ : Row w C lQ cQ (Q.map (Value.int .u32))
  nP : n ≤ lP
  nQ : n ≤ lQ
  n6 : n ≤ 65536
  s6 : lS ≤ 65536
  rng : ∀ k, k < n → 0 ≤ P.getD k 0 ∧ (P.getD k 0).toNat < lS
  wP : ∀ k, k < n → P.getD k 0 ≤ 4294967295
  wQ : ∀ k, k < n → 0 ≤ Q.getD k 0 ∧ Q.getD k 0 ≤ 4294967295
section
variable {w w2 : World} {A B C : Option Addr} {lS lP lQ cS cP cQ n : Nat} {S P Q : List Int}
theorem Inp.kept (h : Inp w A B C lS lP lQ cS cP cQ S P Q n) (k : Kept w w2) : Inp w2 A B C lS lP lQ cS cP cQ S P Q n :=
  ⟨h.rS.kept k, h.rP.kept k, h.rQ.kept k, h.nP, h.nQ, h.n6, h.s6, h.rng, h.wP, h.wQ⟩
theorem Inp.good (h : Inp w A B C lS lP lQ cS cP cQ S P Q n) : so.Good S (ents S P Q n) := fun e he => by
  obtain ⟨k, hk, rfl⟩ := ents_mem.1 he
  have hl := h.rS.len
  simp only [List.length_map] at hl
  exact ⟨⟨⟨(h.rng k hk).1, h.wP k hk⟩, h.wQ k hk⟩, by rw [hl]; exact (h.rng k hk).2, rfl⟩
/-- the k-th source and inner index, and the source's number in the table -/
theorem Inp.at_ (h : Inp w A B C lS lP lQ cS cP cQ S P Q n) {k : Nat} (hk : k < n) : ∃ bS oS bP oP bQ oQ, ∃ p : Nat, A = some ⟨bS, oS, none⟩ ∧ B = some ⟨bP, oP, none⟩ ∧ C = some ⟨bQ, oQ, none⟩ ∧
    P.getD k 0 = (p : Int) ∧ p < lS ∧ w.cell? ⟨bP, oP + k, none⟩ = some (.int .u32 (p : Int)) ∧ w.cell? ⟨bQ, oQ + k, none⟩ = some (.int .u32 (Q.getD k 0)) ∧ w.cell? ⟨bS, oS + p, none⟩ = some (.int .u32 (S.getD p 0)) := by
  obtain ⟨h1, h2⟩ := h.rng k hk
  obtain ⟨p, hp⟩ := Int.eq_ofNat_of_zero_le h1
  have hpl : p < lS := by rw [hp] at h2; simpa using h2
  have nP := h.nP
  have nQ := h.nQ
  obtain ⟨bP, oP, e1, _, c1⟩ := h.rP.at_ 0 (k := k) (by omega)
  obtain ⟨bQ, oQ, e2, _, c2⟩ := h.rQ.at_ 0 (k := k) (by omega)
  obtain ⟨bS, oS, e3, _, c3⟩ := h.rS.at_ 0 (k := p) hpl
  exact ⟨bS, oS, bP, oP, bQ, oQ, p, e3, e1, e2, hp, hpl, by rw [c1, hp], c2, c3⟩
end
end Go.Proofs.Ytbnkhpbgibgahaa.es
