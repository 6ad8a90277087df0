/-
  The digest in memory; the builtin copy into a row, everything else left.
  Conditions: none.
-/
import Derived.Laws.CopyOwn
import Derived.Test.YtgjhmbbbkkidlaaGreatDoorTurn
import Derived.Test.YtgjhmbbbkkidlaaGreatDoorVc
namespace Go.Proofs.YtgjhmbbbkkidlaaGreatDoor.hash
open Go.ChangeShapes Go.WideShapes Go.ChangeAt Go.RowKit
open Go.Proofs.YtgjhmbbbkkidlaaGreatDoor.kit
theorem turn_setRow (w : World) (g : Nat) (cs : Array Value) : Turn w (w.setRow g cs) (· = g) :=
  ⟨rfl, rfl, rfl, by simp [World.setRow], fun k _ hk => setRow_other w g k cs hk⟩
theorem turn_set {w w1 : World} {d : Nat} (h : Turn w w1 (· = d)) (i : Nat) (u : Value) : Turn w (w1.setCell ⟨d, i, none⟩ u) (· = d) := Turn.set h (S := (· = d)) (p := ⟨d, i, none⟩) rfl u
theorem wpList_copy_turn {P : Program} {w : World} {ops : Array Oper} {rest : List Oper} {o : Oper} {a : Act} {Q : Exit → Act → World → Prop} (hgd : o.guard = none) (d s : Operand) (dT sT : TypeId)
    (ho : o.op = .call { callee := .builtin .copy, args := #[d, s], argTypes := #[dT, sT] }) (elem : TypeId) (hu : P.underlying dT = some (.slice elem)) (hsz : (P.info? elem).map (·.size) = some 1)
    (dp sp : Option Addr) (dLen dCap sLen sCap : Nat) (hd : a.eval d = .slice dp dLen dCap) (hs : a.eval s = .slice sp sLen sCap)
    (g off : Nat) (cur : List Value) (t : TypeId) (hg : Blk w g t cur) (cs : List Value) (hn : cs.length = Nat.min sLen dLen)
    (hpos : 0 < cs.length → dp = some ⟨g, off, none⟩ ∧ ∃ ad, sp = some ad ∧ ∀ j v, cs[j]? = some v → w.cell? (ad.add j) = some v)
    (hfit : off + cs.length ≤ cur.length) (h1 : ∀ v ∈ cs, v.oneCell' = true)
    (h : ∀ w', Hid (Blk w' g t (splice cur off cs)) → Hid (Turn w w' (· = g)) → wpList P ops Q rest (a.put o.dst (goInt cs.length)) w') :
    wpList P ops Q (o :: rest) a w := by
  by_cases h0 : cs.length = 0
  · obtain rfl : cs = [] := List.eq_nil_of_length_eq_zero h0
    refine wpList_copy_nothing hgd d s dT sT ho elem hu hsz dp sp dLen dCap sLen sCap hd hs (by simpa using hn.symm) ?_
    exact h w (Lib.hid (by simpa [splice] using hg)) (Lib.hid (Turn.refl _ _))
  · obtain ⟨rfl, ad, rfl, hsrc⟩ := hpos (by omega)
    refine wpList_copy_own hgd d s dT sT ho elem hu hsz g off dLen dCap ad sLen sCap hd hs cur.toArray t hg cs hn hsrc (by simpa using hfit) h1 ?_
    exact h _ (Lib.hid (by unfold Blk; simpa [splice] using setRow_heap w g _ _ t _ hg)) (Lib.hid (turn_setRow _ _ _))
structure St where
  v1 : Int
  v2 : Int
  v3 : Int
  v4 : Int
  tot : Int
  mem : List Int
  n : Nat
def St.ok (s : St) : Prop := s.mem.length = 32 ∧ s.n < 32
def byte (x : Int) : Value := .int .u8 x
def enc (s : St) : List Value := .int .u64 s.v1 :: .int .u64 s.v2 :: .int .u64 s.v3 :: .int .u64 s.v4 :: .int .u64 s.tot :: (s.mem.map byte ++ [.int .i64 s.n])
section
variable {s : St}
theorem enc_len (h : s.mem.length = 32) : (enc s).length = 38 := by simp [enc, h]
theorem enc_n (h : s.mem.length = 32) : (enc s)[37]? = some (.int .i64 s.n) := by
  simp only [enc, List.getElem?_cons_succ]
  rw [List.getElem?_append_right (by simp [h])]
  simp [h]
theorem enc_mem (h : s.mem.length = 32) {i : Nat} (hi : i < 32) : (enc s)[5 + i]? = some (byte (s.mem.getD i 0)) := by
  have e : 5 + i = i + 1 + 1 + 1 + 1 + 1 := by omega
  rw [e]
  simp only [enc, List.getElem?_cons_succ]
  rw [List.getElem?_append_left (by simp [h, hi])]
  rw [List.getElem?_map, List.getElem?_eq_getElem (by omega)]
  simp [List.getElem?_eq_getElem (show i < s.mem.length by omega)]
theorem enc_set1 (x : Int) : (enc s).set 0 (.int .u64 x) = enc { s with v1 := x } := rfl
theorem enc_set2 (x : Int) : (enc s).set 1 (.int .u64 x) = enc { s with v2 := x } := rfl
theorem enc_set3 (x : Int) : (enc s).set 2 (.int .u64 x) = enc { s with v3 := x } := rfl
theorem enc_set4 (x : Int) : (enc s).set 3 (.int .u64 x) = enc { s with v4 := x } := rfl
theorem enc_set5 (x : Int) : (enc s).set 4 (.int .u64 x) = enc { s with tot := x } := rfl
theorem enc_setn (h : s.mem.length = 32) (x : Nat) : (enc s).set 37 (.int .i64 x) = enc { s with n := x } := by
  simp only [enc, List.set_cons_succ]
  rw [List.set_append_right _ _ (by simp [h])]
  simp [h]
theorem enc_copy (h : s.mem.length = 32) (o : Nat) (l : List Int) (hl : o + l.length ≤ 32) : splice (enc s) (5 + o) (l.map byte) = enc { s with mem := splice s.mem o l } := by
  unfold splice enc
  have e : 5 + o = o + 1 + 1 + 1 + 1 + 1 := by omega
  have e2 : 5 + o + (l.map byte).length = (o + l.length) + 1 + 1 + 1 + 1 + 1 := by simp; omega
  rw [e2, e]
  simp only [List.take_succ_cons, List.drop_succ_cons, List.cons_append]
  rw [List.take_append_of_le_length (by simp [h]; omega), List.drop_append_of_le_length (by simp [h]; omega)]
  simp [List.map_take, List.map_drop]
theorem splice_len (h : s.mem.length = 32) (o : Nat) (l : List Int) (hl : o + l.length ≤ 32) : (splice s.mem o l).length = 32 := by
  rw [length_splice _ _ _ (by omega), h]
end
end Go.Proofs.YtgjhmbbbkkidlaaGreatDoor.hash
