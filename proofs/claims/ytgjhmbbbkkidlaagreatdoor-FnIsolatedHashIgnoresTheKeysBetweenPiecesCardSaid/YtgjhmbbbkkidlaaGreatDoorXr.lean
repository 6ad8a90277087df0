/-
  Two chunks with the same public path and the same piece texts have the same isolated hash of eight bytes, whatever their interior keys are, and repeated waits agree.
  Conditions: none beyond the given card Rows.FnIsolatedHashIgnoresTheKeysBetweenPiecesCardSaid itself (it ties xxhash.prime1v to the program's text; over the pruned copy of the seat).
-/
import Derived.WalkKit
import Derived.ProofKit
import Derived.OpenShut
import Derived.Conc.LeavingOf
import Derived.Deep.Matrix
import Derived.LaidMore
import Derived.LaidLaws
import Derived.SevenTiedAt
import Derived.ChangeOld
import Derived.Below
import Derived.Test.YtgjhmbbbkkidlaaGreatDoorRows
import Derived.Test.YtgjhmbbbkkidlaaGreatDoorCards
import Derived.Test.YtgjhmbbbkkidlaaGreatDoorTie
import Derived.Test.YtgjhmbbbkkidlaaGreatDoorXopq
namespace Go.Proofs.YtgjhmbbbkkidlaaGreatDoor.fnIsolatedHashIgnoresTheKeysBetweenPieces
open Go.ChangeShapes Go.WideShapes Go.ChangeAt Go.RowKit
open Go.ChangeMaps (open_string shut_string)
open Go.Conc (G solo Good base enter_at)
open Go.Proofs.YtgjhmbbbkkidlaaGreatDoor.kit
open Go.Proofs.YtgjhmbbbkkidlaaGreatDoor.hash
theorem own : ownKnob Tryz.prog.godebug = none := by kernel_rfl
theorem laidOut : laidOutB Tryz.prog = true := by kernel_rfl
theorem gP : Tryz.prog.globalNamed "github.com/evanw/esbuild/internal/xxhash.prime1v" = some 1 := by kernel_rfl
theorem tP : ((Tryz.prog.globals[1]?).map (·.type)).bind Tryz.prog.underlying = some (.int .u64) := by kernel_rfl
theorem door_met (os : Os) (args : Array Value) : laidMetH Tryz.prog Rows.fnIsolatedHashIgnoresTheKeysBetweenPiecesRow.laid ((World.doorLaid Tryz.prog 13 os).forCall (fun _ _ => 0) ⟨#[], args, []⟩).memory :=
  laidMetH_of_parts3 (fuel := 8) (laidMet_of_run' 8 (by kernel_rfl) (by kernel_rfl)) (by kernel_rfl) (by kernel_rfl)
set_option maxRecDepth 100000 in
theorem of_laid {W : World} (h : laidMetH Tryz.prog Rows.fnIsolatedHashIgnoresTheKeysBetweenPiecesRow.laid W) : W.cell? ⟨1, 0, none⟩ = some (.int .u64 11400714785074694791) := by
  rw [MakeChecks.laidMetH_plain _ _ _ (by kernel_rfl)] at h
  obtain ⟨ps, ⟨g0, t0, cs0, f0, p0, q0, hg0, ht0, hv0, hd0, _, _⟩, _, _⟩ := h
  obtain rfl := Option.some.inj (gP.symm.trans hg0)
  have hu := tP
  rw [ht0] at hu
  obtain ⟨n, e, f, _⟩ := DataW.trod_int (k := .u64) hu hd0
  simp only [Prod.mk.injEq] at f
  obtain ⟨f1, _⟩ := f
  have hn : n = 11400714785074694791 := by
    simp [Rows.laid_github_com_evanw_esbuild_internal_xxhash_prime1v] at f1
    exact f1.symm
  have := World.var?_cell hg0 hv0 0
  rw [this]
  have e0 : cs0 = #[.int .u64 n] := by
    apply Array.ext'
    exact e
  rw [e0, hn]
  rfl
theorem selfV_of {W : World} {x : Addr} {len cap : Nat} {v : Value} (hl : len ≤ cap) (h : 0 < cap → W.cell? (x.add 0) = some v) : SelfV W (.slice (some x) len cap) := by
  intro a l c e hp
  cases e
  have := isRow_of (h (by omega))
  have e2 : (x.add 0).block = x.block := by unfold Addr.add; split <;> rfl
  rw [e2] at this
  exact this
section
variable {H : Type} {enc : TypeId × Value → H} {W : World}
theorem open_u {t e : TypeId} {k : IntKind} (ht : Tryz.prog.underlying t = some (.slice e)) (he : Tryz.prog.underlying e = some (.int k)) (hc : Tryz.prog.cellsOf e = 1) {a : Option Addr} {len cap : Nat} {d : DataW H} {p : List MemPlace} (h : DataW.Trod enc Tryz.prog W 0 (fun _ => true) true t (.slice a len cap) d p) :
    ∃ xs : List Int, Row W a len cap (xs.map (Value.int k)) ∧ SelfV W (.slice a len cap) := by
  obtain ⟨fuel, hf⟩ := h
  rcases open_ints ht he hc hf with ⟨hcs, _⟩ | ⟨x, l, c, zs, hcs, _, hl, hm, hz, _, hcell, _⟩
  · simp [Value.cells] at hcs
    obtain ⟨rfl, rfl, rfl⟩ := hcs
    exact ⟨[], Row.nil W, fun a l c e => by cases e⟩
  · simp [Value.cells] at hcs
    obtain ⟨rfl, rfl, rfl⟩ := hcs
    simp only [if_true] at hz
    exact ⟨_, Row.of_cells hl hm hz hcell, selfV_of hl fun hp => hcell 0 (by omega)⟩
theorem open_rows {a : Option Addr} {len cap : Nat} {d : DataW H} {p : List MemPlace} (h : DataW.Trod enc Tryz.prog W 0 (fun _ => true) true 22 (.slice a len cap) d p) :
    ∃ ls : List (List Int), (ls.length = len ∧ ∃ vs : Nat → Value, (∀ i, i < len → OneB W (vs i) (ls.getD i []) ∧ SelfV W (vs i)) ∧ (0 < len → ∃ b off, a = some ⟨b, off, none⟩ ∧ b < W.heap.size ∧ ∀ i, i < len → W.cell? ⟨b, off + i, none⟩ = some (vs i))) ∧ SelfV W (.slice a len cap) := by
  obtain ⟨fuel, hf⟩ := h
  rcases Go.Deep.open_int_rows Tryz.underlying22 Tryz.underlying24 Tryz.underlying5 (by kernel_rfl) (by kernel_rfl) hf with ⟨hcs, _⟩ | ⟨x, l, c, A, L, C, Z, hcs, _, hl, hm, _, hx⟩
  · simp [Value.cells] at hcs
    obtain ⟨rfl, rfl, rfl⟩ := hcs
    exact ⟨[], ⟨rfl, fun _ => undef, fun i hi => absurd hi (by omega), fun h => absurd h (by omega)⟩, fun a l c e => by cases e⟩
  · simp [Value.cells] at hcs
    obtain ⟨rfl, rfl, rfl⟩ := hcs
    refine ⟨(List.range len).map fun r => (Z r).take (L r), ⟨by simp, fun i => .slice (A i) (L i) (C i), fun i hi => ?_, fun hn => ?_⟩, selfV_of hl fun hp => (hx 0 hp).1⟩
    · obtain ⟨_, r1, r2, r3, r4, r5, r6⟩ := hx i (by omega)
      have hv : ((List.range len).map fun r => (Z r).take (L r)).getD i [] = (Z i).take (L i) := by simp [hi]
      have hlen : ((Z i).take (L i)).length = L i := by rw [List.length_take, r3]; omega
      rw [hv]
      refine ⟨⟨A i, C i, by rw [hlen], ?_⟩, ?_⟩
      · rw [hlen]
        cases hA : A i with
        | none =>
          have hc := r5 hA
          rw [hc] at r1 r3
          have hl0 : L i = 0 := by omega
          have hz : Z i = [] := List.eq_nil_of_length_eq_zero r3
          rw [hc, hl0, hz]
          exact Row.nil _
        | some x => exact Row.of_cells r1 r2 r3 (fun j hj => (r6 x hA).2 j (by omega))
      · show SelfV W (.slice (A i) (L i) (C i))
        cases hA : A i with
        | none => exact fun a l c e => by cases e
        | some x => exact selfV_of r1 fun hp => (r6 x hA).2 0 hp
    · obtain ⟨b, off, spot⟩ := x
      have h0 := (hx 0 (by omega)).1
      have hspot : spot = none := by simpa [Addr.add] using World.cell?_spot h0
      subst hspot
      refine ⟨b, off, rfl, by simpa [Addr.add] using World.block_lt_of_cell? W _ h0, fun i hi => ?_⟩
      have h1 := (hx i (by omega)).1
      rw [← h1]
      congr 1
      unfold Addr.add
      split <;> simp_all
end
theorem row0 {w : World} (h : w.ShapedOpen Tryz.prog) : IsRow w 0 := by
  have hs : (((begin Tryz.prog (fun _ _ => 0) default).world.heap[0]?).bind Obj.row?).isSome = true := by kernel_rfl
  cases e : ((begin Tryz.prog (fun _ _ => 0) default).world.heap[0]?).bind Obj.row? with
  | none => rw [e] at hs; cases hs
  | some x =>
    obtain ⟨z, t⟩ := x
    obtain ⟨cs, hc, _⟩ := h.1 0 z t (by rw [nglob]; omega) e
    exact ⟨cs, t, _, hc⟩
end Go.Proofs.YtgjhmbbbkkidlaaGreatDoor.fnIsolatedHashIgnoresTheKeysBetweenPieces
