/-
  The law's copy of the parts.
  Conditions: the rows are readable.
-/
import Derived.LoopTactic
import Derived.Test.YtgjhmbbbkkidlaaGreatDoorMk1
import Derived.Test.YtgjhmbbbkkidlaaGreatDoorClone8b
import Derived.Test.YtgjhmbbbkkidlaaGreatDoorXa
namespace Go.Proofs.YtgjhmbbbkkidlaaGreatDoor.hash
open Go.ChangeShapes Go.WideShapes Go.ChangeAt Go.RowKit
open Go.Proofs.YtgjhmbbbkkidlaaGreatDoor.kit
/-- a slice of bytes beyond block g -/
def FarB (w : World) (g : Nat) (v : Value) (l : List Int) : Prop := ∃ a, v = .slice a l.length l.length ∧ Row w a l.length l.length (l.map byte) ∧ ∀ b, a.map (·.block) = some b → g < b
/-- a row of bytes that is full -/
def OneT (w : World) (v : Value) (l : List Int) : Prop := ∃ a, v = .slice a l.length l.length ∧ Row w a l.length l.length (l.map byte)
theorem Row.far_set {w w3 : World} {g : Nat} {a : Option Addr} {n c : Nat} {xs : List Value} (r : Row w a n c xs) (hk : Kept w w3) (hf : ∀ b, a.map (·.block) = some b → g < b) (k : Nat) (u : Value) : Row (w3.setCell ⟨g, k, none⟩ u) a n c xs :=
  (r.kept hk).far (by simp [World.setCell]) fun b _ hb => Below.heap_setCell w3 ⟨g, k, none⟩ u b (by have := hf b hb; show b ≠ g; omega)
theorem FarB.set {w w3 : World} {g : Nat} {v : Value} {l : List Int} (h : FarB w g v l) (hk : Kept w w3) (k : Nat) (u : Value) : FarB (w3.setCell ⟨g, k, none⟩ u) g v l := by
  obtain ⟨a, e, r, hf⟩ := h
  exact ⟨a, e, Row.far_set r hk hf k u, hf⟩
set_option maxRecDepth 100000 in
set_option maxHeartbeats 2000000 in
theorem cloneParts_calls (A : Addr) (n cap : Nat) (ls : List (List Int)) (w : World) (h : Rows8 w (some A) n ls) (hn : n ≤ 1048576) (hl : ∀ i, i < n → (ls.getD i []).length ≤ 1048576) :
    Calls Tryz.prog 7 #[.slice (some A) n cap] w fun e w' => ∃ g cs, e = .returned (.slice (some ⟨g, 0, none⟩) n n) ∧ w.heap.size ≤ g ∧ cs.length = n ∧ Blk w' g 24 cs ∧ (∀ j, j < n → ∃ v, cs[j]? = some v ∧ OneT w' v (ls.getD j [])) ∧ Kept w w' := by
  obtain ⟨C, hC, hC1, hC2, hmk⟩ := makeN1 (T := 22) (E := 24) (size := 1) (bytes := 24) Tryz.underlying22 (by kernel_rfl) (by kernel_rfl) n (by omega) (by omega)
  have heq := fun w : World => Go.run_eql_slice_nil (P := Tryz.prog) w 22 24 (some A) n cap Tryz.underlying22
  simp only [Option.isNone] at heq
  have HC1 : Hid (Blk (w.alloc (.cells C.toArray 24)) w.heap.size 24 C) := Lib.hid (Blk.new w 24 C)
  obtain ⟨hlen, vs, hvs, hrow⟩ := h
  clear hC1 hC2
  rw [Nat.mul_one] at hC
  have HVS := Lib.hid hvs
  have HROW := Lib.hid hrow
  have HLS := Lib.hid hl
  clear hvs hrow hl
  go_enter Tryz.func7, Tryz.ntmps7
  go_wp2
  have hk0 : Kept w (w.alloc (.cells C.toArray 24)) := (Kept.refl _).alloc _
  generalize hg : w.heap.size = g at *
  generalize w.alloc (.cells C.toArray 24) = w1 at *
  go_loopw [4] (fun t4 wr => ∃ (k : Nat) (cs : List Value), k ≤ n ∧ t4 = .int .i64 (k : Int) ∧ cs.length = n ∧ Hid (Blk wr g 24 cs) ∧ Kept w wr ∧ Hid (∀ j, j < k → ∃ v, cs[j]? = some v ∧ FarB wr g v (ls.getD j []))) (fun t _ => n - natOf t)
  case atStart => exact ⟨0, C, Nat.zero_le _, rfl, hC, HC1, hk0, Lib.hid fun j hj => absurd hj (by omega)⟩
  case round =>
    obtain ⟨k, cs, hk, rfl, hcs, HB, hkept, HJ⟩ := hrel
    by_cases hlt : k < n
    · obtain ⟨b, off, hA, _, hc⟩ := HROW.out (by omega)
      injection hA with hA
      subst hA
      obtain ⟨a, c, ev, hr⟩ := HVS.out k hlt
      have hci := hkept.cell (hc k hlt)
      rw [ev] at hci
      have HCL := Lib.hid (clone8b.run a (ls.getD k []).length c (ls.getD k []) wr (hr.kept hkept) (by have := HLS.out k hlt; omega))
      clear hc ev hr
      have hck := HB.out.cellD (i := k) (by rw [hcs]; exact hlt)
      generalize cs[k] = cv at hck
      generalize hll : (ls.getD k []).length = L at *
      have HL := Lib.hid hll
      clear hll
      go_wp2_with (go_at_call 15; refine HCL.out.mono ?_; rintro e w3 ⟨a3, rfl, ho3, _, hk3⟩; have hck3 := hk3.cell hck; have hf3 := (HB.out.kept hk3).free k; have HO3 := Lib.hid ho3; clear ho3)
      have hgw : g < wr.heap.size := HB.out.lt
      refine ⟨⟨k + 1, cs.set k (.slice a3 L L), by omega, by rw [Int.natCast_add]; rfl, by rw [List.length_set]; exact hcs, Lib.hid ((HB.out.kept hk3).set k _), (hkept.trans hk3).setCell (p := ⟨g, k, none⟩) (Nat.le_of_eq hg) _, Lib.hid fun j hj => ?_⟩, ?_⟩
      · by_cases e : j = k
        · subst e
          refine ⟨.slice a3 L L, by rw [List.getElem?_set_self (by rw [hcs]; exact hlt)], a3, by rw [HL.out], ?_, fun b hb => ?_⟩
          · rw [HL.out]
            refine Row.far_set (Row.of_own HO3.out) (Kept.refl _) (fun b hb => ?_) j _
            have := (own_lt HO3.out b hb).1
            omega
          · have := (own_lt HO3.out b hb).1
            omega
        · obtain ⟨v, h1, h2⟩ := HJ.out j (by omega)
          exact ⟨v, by rw [List.getElem?_set_ne (Ne.symm e)]; exact h1, h2.set hk3 k _⟩
      · simp only [natOf]
        omega
    · obtain rfl : k = n := by omega
      go_wp2
      go_ret
      refine ⟨g, cs, rfl, Nat.le_of_eq hg, hcs, HB.out, fun j hj => ?_, hkept⟩
      obtain ⟨v, h1, a, h2, h3, _⟩ := HJ.out j hj
      exact ⟨v, h1, a, h2, h3⟩
end Go.Proofs.YtgjhmbbbkkidlaaGreatDoor.hash
