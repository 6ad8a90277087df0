/-
  Arguments opened: a slice of structs, element by element; a slice of integers inside a struct.
  Conditions: none.
-/
import Derived.Test.YtknmcbhcbomjmaaBlk
import Derived.Deep.Slices
import Derived.OpenShut
namespace Go.Proofs.Ytknmcbhcbomjmaa.kit
open Go.ChangeShapes Go.WideShapes Go.ChangeAt Go.RowKit

theorem Addr.add_pos (b o i : Nat) (s : Option Nat) : ∀ x : Addr, x.spot = none → x.add i = ⟨x.block, x.off + i, none⟩ := by
  rintro ⟨b, o, s⟩ hs
  simp only at hs
  subst hs
  unfold Addr.add
  split <;> simp_all

section
variable {H : Type} {enc : TypeId × Value → H} {W : World}
/-- the elements of a slice that came in, each by its cells -/
theorem open_elems {t e size : Nat} {a : Option Addr} {len cap : Nat} {d : DataW H} {p : List MemPlace} (ht : Try.prog.underlying t = some (.slice e)) (hc : Try.prog.cellsOf e = size) (hs : 0 < size)
    (h : DataW.Trod enc Try.prog W 0 (fun _ => true) true t (.slice a len cap) d p) :
    len ≤ cap ∧ cap ≤ maxLen ∧ (a = none → cap = 0) ∧ (0 < cap → ∃ b off, a = some ⟨b, off, none⟩ ∧ b < W.heap.size ∧ ∀ i, i < cap → ∃ (cs : List Value) (m : Nat) (x : DataW H × List MemPlace), cs.length = size ∧
      (∀ j, j < size → W.cell? ⟨b, off + i * size + j, none⟩ = cs[j]?) ∧ DataW.trod enc Try.prog W 0 (fun _ => true) true m e cs = some x) := by
  obtain ⟨fuel, hf⟩ := h
  rcases Go.Deep.open_slice ht hf with ⟨hcs, _⟩ | ⟨x, l, c, m, n, D, Pl, hcs, _, hl, hm, hmm, _, hx⟩
  · simp [Value.cells] at hcs
    obtain ⟨rfl, rfl, rfl⟩ := hcs
    exact ⟨Nat.le_refl _, Nat.zero_le _, fun _ => rfl, fun h => absurd h (by omega)⟩
  · simp [Value.cells] at hcs
    obtain ⟨rfl, rfl, rfl⟩ := hcs
    simp only [if_true] at hmm
    subst hmm
    refine ⟨hl, hm, fun h => (by cases h), fun hpos => ?_⟩
    obtain ⟨c0, hc0, _⟩ := hx 0 hpos
    rw [hc] at hc0
    obtain ⟨_, hl0, hat0⟩ := World.cells?_some hc0
    have h00 := hat0 0 hs
    have hsome : c0[0]? = some (c0[0]'(by omega)) := List.getElem?_eq_getElem (by omega)
    rw [hsome] at h00
    obtain ⟨b, off, spot⟩ := x
    have e0 : ((⟨b, off, spot⟩ : Addr).add (0 * size)).add 0 = ⟨b, off, spot⟩ := by simp [Addr.add]
    rw [e0] at h00
    have hspot : spot = none := by simpa using World.cell?_spot h00
    subst hspot
    refine ⟨b, off, rfl, World.block_lt_of_cell? W _ h00, fun i hi => ?_⟩
    obtain ⟨ci, hci, hti⟩ := hx i hi
    rw [hc] at hci
    obtain ⟨_, hli, hati⟩ := World.cells?_some hci
    refine ⟨ci, n, _, hli, fun j hj => ?_, hti⟩
    have := hati j hj
    rw [Go.Deep.add_add] at this
    rw [← this, Addr.add_pos 0 0 _ none ⟨b, off, none⟩ rfl]
    show W.cell? ⟨b, off + i * size + j, none⟩ = W.cell? ⟨b, off + (i * size + j), none⟩
    rw [Nat.add_assoc]
/-- a slice of integers in a cell -/
theorem row_ints {t e : Nat} {k : IntKind} {m : Nat} {v : Value} {x : DataW H × List MemPlace} (ht : Try.prog.underlying t = some (.slice e)) (he : Try.prog.underlying e = some (.int k)) (hc : Try.prog.cellsOf e = 1)
    (h : DataW.trod enc Try.prog W 0 (fun _ => true) true m t [v] = some x) : ∃ a cap zs, v = .slice a (zs : List Int).length cap ∧ Row W a zs.length cap (zs.map (Value.int k)) ∧ ∀ n ∈ zs, (Lit.int k n).wf = true := by
  rcases open_ints ht he hc h with ⟨hcs, _⟩ | ⟨x, l, c, zs, hcs, _, hl, hm, hz, _, hcell, hwz⟩
  · have hv : v = .slice none 0 0 := by simpa using hcs
    exact ⟨none, 0, [], hv, Row.nil _, fun n hn => absurd hn (by simp)⟩
  · have hv : v = .slice (some x) l c := by simpa using hcs
    simp only [if_true] at hz
    have hlen : (zs.take l).length = l := by simp; omega
    refine ⟨some x, c, zs.take l, by rw [hlen]; exact hv, ?_, fun n hn => hwz n (List.mem_of_mem_take hn)⟩
    rw [hlen]
    exact Row.of_cells hl hm hz hcell
end
end Go.Proofs.Ytknmcbhcbomjmaa.kit
