/-
  The law's state: the table of symbols as the queries leave it, and one query.
  Conditions: ast.InvalidRef holds its initial value.
-/
import Derived.Test.YtcndjkndmmcagaaDoorZy
import Derived.Test.YtcndjkndmmcagaaDoorGd2
import Derived.Test.YtcndjkndmmcagaaDoorCu
import Derived.Test.YtcndjkndmmcagaaDoorCloneS
import Derived.Test.YtcndjkndmmcagaaDoorCloneF
import Derived.Test.YtcndjkndmmcagaaDoorCloneU8
import Derived.Test.YtcndjkndmmcagaaDoorCloneI32
namespace Go.Proofs.YtcndjkndmmcagaaDoor.mp
open Go.ChangeShapes Go.WideShapes Go.ChangeAt Go.RowKit
open kit chain arena

/-- every symbol whose links lead to rr has a chain to it; rr's kind is kd -/
structure TOk (zs : List Int) (n rr kd : Nat) (τ : Tab) : Prop where
  ch : ∀ j, j < n → ∀ k, rootS zs k j = some rr → ∃ d, Chain 1 τ d (0, j) (0, rr)
  kd : (symAt τ (0, rr)).kind = kd
theorem TOk.relink {zs : List Int} {n rr kd : Nat} {τ : Tab} (h : TOk zs n rr kd τ) {d j : Nat} (hc : Chain 1 τ d (0, j) (0, rr)) : TOk zs n rr kd (relink τ (path τ d (0, j)) (0, rr)) := by
  refine ⟨fun q hq k hk => ?_, ?_⟩
  · obtain ⟨e, he⟩ := h.ch q hq k hk
    obtain ⟨e2, h2⟩ := hc.after he (by intro e; have := congrArg Prod.fst e; simp [inv] at this)
    exact ⟨e2, h2⟩
  · rw [relink_kind τ _ _ hc.root.valid]; exact h.kd
/-- the world as the queries leave it: wB the world ahead of the first one -/
structure St2 (wB W : World) (g b : Nat) (zs : List Int) (n rr kd : Nat) : Prop where
  tu : Turn wB W (fun _ => b) 1
  ar : ∃ τ, Arena W g (fun _ => b) 1 τ ∧ TOk zs n rr kd τ
theorem St2.kept {wB W W2 : World} {g b n rr kd : Nat} {zs : List Int} (h : St2 wB W g b zs n rr kd) (k : Kept W W2) : St2 wB W2 g b zs n rr kd := by
  obtain ⟨τ, h1, h2⟩ := h.ar
  exact ⟨h.tu.kept k, τ, h1.kept k, h2⟩
/-- what holds of wB -/
structure Base (wB : World) (M g b rr kd : Nat) (F : Value → Option Value) (nm : ByteArray) (V : Value) (ok : Bool) : Prop where
  inv : Inv wB
  pos : b ≠ 0
  map : ∃ m, mapf.MapF Tryd.prog 50 wB M m F
  nem : b ≠ M
  ans : Ans wB 1 (fun _ => b) F rr kd nm V ok
  big : rr ≤ 4294967295 ∧ nm.size ≤ 1048576
theorem query {wB W : World} {M g b n rr kd : Nat} {F : Value → Option Value} {nm : ByteArray} {a0 : Option Addr} {n0 c0 x : Nat} {ok : Bool} {zs : List Int} (hB : Base wB M g b rr kd F nm (.agg #[.slice a0 n0 c0, .float .f64 x]) ok) (h : St2 wB W g b zs n rr kd) (j : Nat) (hj : j < n) (k : Nat) (hk : rootS zs k j = some rr) :
    Calls Tryd.prog 15 #[.agg #[.slice (some ⟨g, 0, none⟩) 1 1], .map (some M), .agg #[.int .u32 0, .int .u32 (j : Int)], .string nm] W fun e w' => e = .returned (.tuple #[.agg #[.slice a0 n0 c0, .float .f64 x], .bool ok]) ∧ Turn W w' (fun _ => b) 1 ∧ St2 wB w' g b zs n rr kd := by
  obtain ⟨τ, hA, hO⟩ := h.ar
  obtain ⟨d, hd⟩ := hO.ch j hj k hk
  have hz : ∀ s, s < 1 → (fun _ : Nat => b) s ≠ 0 := fun s _ => hB.pos
  obtain ⟨m, hm⟩ := hB.map
  have hM : ∃ m, mapf.MapF Tryd.prog 50 W M m F := ⟨m, hm.of_block (h.tu.block M hm.lt (fun s _ => hB.nem))⟩
  have hx := hB.ans.turn h.tu
  rw [← hO.kd] at hx
  refine (zz W M g (fun _ => b) 1 τ d (0, j) rr F nm a0 n0 c0 x ok hA (h.tu.inv hB.inv hz) hz hd hM (fun s _ => hB.nem) hB.big.1 hB.big.2 hx).mono ?_
  rintro e w' ⟨h1, h2, h3⟩
  exact ⟨h1, h2, h.tu.trans h2, _, h3, hO.relink hd⟩
/-- a cell of a block that stands in W stands behind the step -/
def Stay (W w' : World) (n6 : Nat) : Prop :=
  (W.cell? ⟨n6, 0, none⟩ = some (.slice none 0 0) → w'.cell? ⟨n6, 0, none⟩ = some (.slice none 0 0) ∧ w'.frozen? ⟨n6, 0, none⟩ = W.frozen? ⟨n6, 0, none⟩) ∧
  (W.cell? ⟨n6, 1, none⟩ = some (.float .f64 0) → w'.cell? ⟨n6, 1, none⟩ = some (.float .f64 0) ∧ w'.frozen? ⟨n6, 1, none⟩ = W.frozen? ⟨n6, 1, none⟩)
theorem stay_of {W w' : World} {b n6 : Nat} (h : Turn W w' (fun _ => b) 1) (hn : b ≠ n6) : Stay W w' n6 := ⟨h.at n6 (fun _ _ => hn) 0 _, h.at n6 (fun _ _ => hn) 1 _⟩
theorem queryR {wB wA : World} {M g b bx n rr kd : Nat} {F : Value → Option Value} {nm : ByteArray} {a0 : Option Addr} {n0 c0 x : Nat} {ok : Bool} {zs : List Int} (hB : Base wB M g b rr kd F nm (.agg #[.slice a0 n0 c0, .float .f64 x]) ok) (h : St2 wB wA g b zs n rr kd)
    (hx : wB.cell? ⟨bx, 0, none⟩ = some (.slice (some ⟨g, 0, none⟩) 1 1)) (hbx : b ≠ bx) (j : Nat) (hj : j < n) (k : Nat) (hk : rootS zs k j = some rr) (W : World) (hW : Kept wA W) (n6 n7 : Nat) (h6 : b ≠ n6) (h7 : b ≠ n7) :
    Calls Tryd.prog 15 #[.agg #[.slice (some ⟨g, 0, none⟩) 1 1], .map (some M), .agg #[.int .u32 0, .int .u32 (j : Int)], .string nm] W fun e w' => e = .returned (.tuple #[.agg #[.slice a0 n0 c0, .float .f64 x], .bool ok]) ∧ w'.cell? ⟨bx, 0, none⟩ = some (.slice (some ⟨g, 0, none⟩) 1 1) ∧
      (W.cell? ⟨n6, 0, none⟩ = some (.slice none 0 0) → w'.cell? ⟨n6, 0, none⟩ = some (.slice none 0 0) ∧ w'.frozen? ⟨n6, 0, none⟩ = W.frozen? ⟨n6, 0, none⟩) ∧
      (W.cell? ⟨n6, 1, none⟩ = some (.float .f64 0) → w'.cell? ⟨n6, 1, none⟩ = some (.float .f64 0) ∧ w'.frozen? ⟨n6, 1, none⟩ = W.frozen? ⟨n6, 1, none⟩) ∧
      (W.cell? ⟨n7, 0, none⟩ = some (.slice none 0 0) → w'.cell? ⟨n7, 0, none⟩ = some (.slice none 0 0) ∧ w'.frozen? ⟨n7, 0, none⟩ = W.frozen? ⟨n7, 0, none⟩) ∧
      (W.cell? ⟨n7, 1, none⟩ = some (.float .f64 0) → w'.cell? ⟨n7, 1, none⟩ = some (.float .f64 0) ∧ w'.frozen? ⟨n7, 1, none⟩ = W.frozen? ⟨n7, 1, none⟩) ∧
      Hid (St2 wB w' g b zs n rr kd) ∧ Hid (Turn wA w' (fun _ => b) 1) := by
  have hS := h.kept hW
  refine (query hB hS j hj k hk).mono ?_
  rintro e w' ⟨h1, h2, h3⟩
  exact ⟨h1, h2.cell (hS.tu.cell hx (fun _ _ => hbx)) (fun _ _ => hbx), (stay_of h2 h6).1, (stay_of h2 h6).2, (stay_of h2 h7).1, (stay_of h2 h7).2, Lib.hid h3, Lib.hid ((Turn.of_kept hW _ _).trans h2)⟩
theorem zrefR {wB wA : World} {g b bx n rr kd : Nat} {zs : List Int} (h : St2 wB wA g b zs n rr kd)
    (hx : wB.cell? ⟨bx, 0, none⟩ = some (.slice (some ⟨g, 0, none⟩) 1 1)) (hbx : b ≠ bx) (hb : b < wA.heap.size) (j : Nat) (W : World) (hW : Kept wA W) (n6 : Nat) :
    Calls Tryd.prog 16 #[.int .u32 (j : Int)] W fun e w' => e = .returned (.agg #[.int .u32 0, .int .u32 (j : Int)]) ∧ w'.cell? ⟨bx, 0, none⟩ = some (.slice (some ⟨g, 0, none⟩) 1 1) ∧
      (W.cell? ⟨n6, 0, none⟩ = some (.slice none 0 0) → w'.cell? ⟨n6, 0, none⟩ = some (.slice none 0 0) ∧ w'.frozen? ⟨n6, 0, none⟩ = W.frozen? ⟨n6, 0, none⟩) ∧
      (W.cell? ⟨n6, 1, none⟩ = some (.float .f64 0) → w'.cell? ⟨n6, 1, none⟩ = some (.float .f64 0) ∧ w'.frozen? ⟨n6, 1, none⟩ = W.frozen? ⟨n6, 1, none⟩) ∧
      Hid (Kept wA w') ∧ Hid (b ≠ w'.heap.size) := by
  refine (zref (j : Int) W).mono ?_
  rintro e w' ⟨h1, h2⟩
  have hk := hW.trans h2
  have := hk.size
  refine ⟨h1, ((h.tu.trans (Turn.of_kept hk (fun _ => b) 1)).cell hx (fun _ _ => hbx)), ?_, ?_, Lib.hid hk, Lib.hid (by omega)⟩
  · intro q; exact ⟨h2.cell q, (Below.frozen h2 (World.block_lt_of_cell? W _ q))⟩
  · intro q; exact ⟨h2.cell q, (Below.frozen h2 (World.block_lt_of_cell? W _ q))⟩
end Go.Proofs.YtcndjkndmmcagaaDoor.mp
