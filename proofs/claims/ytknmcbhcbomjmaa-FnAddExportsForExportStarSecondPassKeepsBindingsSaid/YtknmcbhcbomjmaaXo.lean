/-
  The argument 'files' of the two laws opened over this seat's program.
  Conditions: none.
-/
import Derived.Test.YtknmcbhcbomjmaaOpen
import Derived.Test.YtknmcbhcbomjmaaWf
import Derived.SliceStrings
namespace Go.Proofs.Ytknmcbhcbomjmaa.xs
open Go.ChangeShapes Go.WideShapes Go.ChangeAt Go.RowKit
open kit

theorem bu8 {n : Int} (h : (Lit.int .u8 n).wf = true) : 0 ≤ n ∧ n ≤ 255 := by
  simp only [Lit.wf, Bool.and_eq_true, decide_eq_true_eq] at h
  exact h
theorem bi32 {n : Int} (h : (Lit.int .i32 n).wf = true) : -2147483648 ≤ n ∧ n ≤ 2147483647 := by
  simp only [Lit.wf, Bool.and_eq_true, decide_eq_true_eq] at h
  exact h
theorem rowStrs {w : World} {x : Addr} {len cap : Nat} {ss : List ByteArray} (hl : len ≤ cap) (hm : cap ≤ maxLen) (hz : ss.length = cap) (hc : ∀ i, i < ss.length → w.cell? (x.add i) = some (.string (ss.getD i ByteArray.empty))) : Row w (some x) len cap ((ss.take len).map Value.string) := by
  refine ⟨by simp; omega, hl, hm, fun h => (by cases h), fun hn => ?_⟩
  obtain ⟨b, off, spot⟩ := x
  have h0 := hc 0 (by omega)
  have hspot : spot = none := by simpa [Addr.add] using World.cell?_spot h0
  subst hspot
  refine ⟨b, off, rfl, ?_, fun k hk => ?_⟩
  · have h1 : w.cell? ⟨b, off, none⟩ = some (.string (ss.getD 0 ByteArray.empty)) := by simpa [Addr.add] using h0
    exact World.block_lt_of_cell? w _ h1
  · have hk2 : k < len := by simp at hk; omega
    have h1 := hc k (by omega)
    rw [Addr.add_pos 0 0 _ none ⟨b, off, none⟩ rfl] at h1
    rw [h1]
    simp [show k < ss.length by omega, hk2]
section
variable {H : Type} {enc : TypeId × Value → H} {W : World}
theorem row_strs {t e : Nat} {m : Nat} {v : Value} {x : DataW H × List MemPlace} (ht : Try.prog.underlying t = some (.slice e)) (he : Try.prog.underlying e = some .string) (hc : Try.prog.cellsOf e = 1)
    (h : DataW.trod enc Try.prog W 0 (fun _ => true) true m t [v] = some x) : ∃ a cap ss, v = .slice a (ss : List ByteArray).length cap ∧ Row W a ss.length cap (ss.map Value.string) ∧ ∀ s ∈ ss, s.size ≤ maxLen := by
  rcases open_strings ht he hc h with ⟨hcs, _⟩ | ⟨x, l, c, ss, hcs, _, hl, hm, hz, _, hcell, hws⟩
  · have hv : v = .slice none 0 0 := by simpa using hcs
    exact ⟨none, 0, [], hv, Row.nil _, fun n hn => absurd hn (by simp)⟩
  · have hv : v = .slice (some x) l c := by simpa using hcs
    simp only [if_true] at hz
    have hlen : (ss.take l).length = l := by simp; omega
    refine ⟨some x, c, ss.take l, by rw [hlen]; exact hv, ?_, fun n hn => hws n (List.mem_of_mem_take hn)⟩
    rw [hlen]
    exact rowStrs hl hm hz hcell
theorem c5 : Try.prog.cellsOf 5 = 1 := by kernel_rfl
theorem c36 : Try.prog.cellsOf 36 = 1 := by kernel_rfl
theorem c37 : Try.prog.cellsOf 37 = 1 := by kernel_rfl
set_option maxRecDepth 100000 in
theorem openFile {m : Nat} {cs : List Value} {x : DataW H × List MemPlace} {b o : Nat} (hl : cs.length = 3) (hc : ∀ j, j < 3 → W.cell? ⟨b, o + j, none⟩ = cs[j]?) (h : DataW.trod enc Try.prog W 0 (fun _ => true) true m 39 cs = some x) :
    ∃ f : EF, FileAt W b o f ∧ (0 ≤ f.ek ∧ f.ek ≤ 255) ∧ (∀ x ∈ f.ex, x.size ≤ maxLen) ∧ ∀ x ∈ f.sr, -2147483648 ≤ x ∧ x ≤ 2147483647 := by
  obtain ⟨xs, n, _, _, _, hxl, hx⟩ := DataW.trod_struct Try.underlying39 h
  match cs, hl with
  | [v0, v1, v2], _ =>
    have q0 : DataW.trod enc Try.prog W 0 (fun _ => true) true n 5 [v0] = xs[0]? := by have q : DataW.trod enc Try.prog W 0 (fun _ => true) true n 5 ((([v0, v1, v2] : List Value).drop 0).take (Try.prog.cellsOf 5)) = xs[0]? := hx 0 _ rfl; rw [c5] at q; exact q
    have q1 : DataW.trod enc Try.prog W 0 (fun _ => true) true n 36 [v1] = xs[1]? := by have q : DataW.trod enc Try.prog W 0 (fun _ => true) true n 36 ((([v0, v1, v2] : List Value).drop 1).take (Try.prog.cellsOf 36)) = xs[1]? := hx 1 _ rfl; rw [c36] at q; exact q
    have q2 : DataW.trod enc Try.prog W 0 (fun _ => true) true n 37 [v2] = xs[2]? := by have q : DataW.trod enc Try.prog W 0 (fun _ => true) true n 37 ((([v0, v1, v2] : List Value).drop 2).take (Try.prog.cellsOf 37)) = xs[2]? := hx 2 _ rfl; rw [c37] at q; exact q
    have hxl : xs.length = 3 := hxl
    rw [List.getElem?_eq_getElem (by omega)] at q0 q1 q2
    obtain ⟨n0, e0, _, w0⟩ := DataW.trod_int Try.underlying5 q0
    obtain ⟨a1, cap1, ss, e1, hr1, hw1⟩ := row_strs Try.underlying36 Try.underlying9 (by kernel_rfl) q1
    obtain ⟨a2, cap2, zs, e2, hr2, hw2⟩ := row_ints Try.underlying37 Try.underlying21 (by kernel_rfl) q2
    have e0 : v0 = .int .u8 n0 := by simpa using e0
    subst e0 e1 e2
    exact ⟨⟨n0, ss, zs, a1, cap1, a2, cap2⟩, ⟨hc 0 (by omega), hc 1 (by omega), hc 2 (by omega), hr1, hr2⟩, bu8 w0, hw1, fun x hx => bi32 (hw2 x hx)⟩
theorem openFiles {a : Option Addr} {len cap : Nat} {d : DataW H} {p : List MemPlace} (h : DataW.Trod enc Try.prog W 0 (fun _ => true) true 22 (.slice a len cap) d p) : ∃ fs, Fs W a len fs ∧ len ≤ maxLen := by
  obtain ⟨hl, hm, _, hx⟩ := open_elems (size := 3) Try.underlying22 (by kernel_rfl) (by omega) h
  by_cases hpos : 0 < cap
  · obtain ⟨b, off, ha, hb, hx⟩ := hx hpos
    have each : ∀ i, i < cap → ∃ f : EF, FileAt W b (off + i * 3) f ∧ (0 ≤ f.ek ∧ f.ek ≤ 255) ∧ (∀ x ∈ f.ex, x.size ≤ maxLen) ∧ ∀ x ∈ f.sr, -2147483648 ≤ x ∧ x ≤ 2147483647 := fun i hi => by
      obtain ⟨cs, m, x, h1, h2, h3⟩ := hx i hi
      exact openFile h1 h2 h3
    obtain ⟨F, hF⟩ := Go.Deep.choose_lt each
    refine ⟨(List.range len).map F, ⟨by simp, fun _ => ⟨b, off, ha, hb, fun i hi => ?_⟩, fun f hf => ?_⟩, by omega⟩
    · have e : ((List.range len).map F).getD i default = F i := by simp [hi]
      rw [e]
      exact (hF i (by omega)).1
    · obtain ⟨i, hi, rfl⟩ := List.mem_map.1 hf
      exact (hF i (by have := List.mem_range.1 hi; omega)).2
  · exact ⟨[], ⟨by simp; omega, fun h => absurd h (by omega), fun f hf => absurd hf (by simp)⟩, by omega⟩
end
end Go.Proofs.Ytknmcbhcbomjmaa.xs
