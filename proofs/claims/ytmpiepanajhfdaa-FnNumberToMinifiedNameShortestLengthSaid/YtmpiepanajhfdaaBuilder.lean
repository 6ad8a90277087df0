/-
  Contracts of (*strings.Builder).copyCheck and WriteString over this seat's program, for a builder that the call itself made.
  Conditions: what is held and written together is at most 2^40 bytes.
-/
import Derived.Test.YtmpiepanajhfdaaShelf
import Derived.Test.YtmpiepanajhfdaaBlk
import Derived.Lib.Builder
import Derived.Lib.AppendStr
import Derived.Lib.UnsafeStr
import Derived.Laws.Externs
import Derived.OwnWalk
namespace Go.Proofs.Ytmpiepanajhfdaa.bld
open Go.ChangeShapes Go.WideShapes Go.ChangeAt Go.RowKit
open kit

theorem size66 : (Try.prog.info? 66).map (·.size) = some 2 := by kernel_rfl
theorem info5 : (Try.prog.info? 5).map (fun i => (i.zero, i.size, i.bytes)) = some (some (.int .u8 0), 1, 1) := by kernel_rfl

set_option maxHeartbeats 1000000 in
set_option maxRecDepth 100000 in
theorem check_used (b : Nat) (w : World) (h0 : w.cell? ⟨b, 0, none⟩ = some (.pointer (some ⟨b, 0, none⟩))) :
    Calls Try.prog 38 #[.pointer (some ⟨b, 0, none⟩)] w fun e w' => e = .returned (.tuple #[]) ∧ w' = w := by
  obtain ⟨j, hj, _⟩ := Option.map_eq_some_iff.1 size66
  go_enter Try.func38, Try.ntmps38
  go_wp2
  rw [Lib.run_neq_ptr_same w _ Try.underlying63 hj]
  go_wp2
  go_end0
  exact ⟨rfl, rfl⟩

set_option maxHeartbeats 1000000 in
set_option maxRecDepth 100000 in
theorem check_fresh (b : Nat) (w : World) (h0 : w.cell? ⟨b, 0, none⟩ = some (.pointer none)) (hsh : w.shape? b = some (66, 2)) (hfz : w.frozen? ⟨b, 0, none⟩ = false) :
    Calls Try.prog 38 #[.pointer (some ⟨b, 0, none⟩)] w fun e w' => e = .returned (.tuple #[]) ∧ w' = w.setCell ⟨b, 0, none⟩ (.pointer (some ⟨b, 0, none⟩)) := by
  obtain ⟨j, hj, hjs⟩ := Option.map_eq_some_iff.1 size66
  go_enter Try.func38, Try.ntmps38
  go_wp2
  rw [Lib.run_to_unsafe w ⟨b, 0, none⟩ Try.underlying63 Try.underlying93 hj (by rw [hjs]; decide) hsh (Nat.zero_lt_succ 1)]
  simp only [Result.andThen]
  rw [Oper.upon_value]
  go_wp2
  rw [run_callFunc_extern Try.func42 (by kernel_rfl) (by kernel_rfl) (by kernel_rfl) (e := Extern.AbiNoEscape.same) (by kernel_rfl)]
  rw [Lib.run_noEscape]
  simp only [Result.andThen]
  rw [Oper.upon_value]
  go_wp2
  rw [Lib.run_from_unsafe w ⟨b, 0, none⟩ Try.underlying93 Try.underlying63 hj hsh (by kernel_rfl)]
  simp only [Result.andThen]
  rw [Oper.upon_value]
  go_wp2
  go_end0
  exact ⟨rfl, rfl⟩

theorem check (B b : Nat) (bs : List Value) (w : World) (h : Lib.IsBuilder 66 5 B b bs w) :
    Calls Try.prog 38 #[.pointer (some ⟨b, 0, none⟩)] w fun e w' => e = .returned (.tuple #[]) ∧ (Lib.BuilderAt 66 5 B b (.pointer (some ⟨b, 0, none⟩)) bs w' ∧ Below B w w') := by
  rcases h with h | h
  · refine (check_fresh b w h.cell0 h.shape h.frozen0).mono ?_
    rintro e w' ⟨rfl, rfl⟩
    exact ⟨rfl, h.used _, (Below.refl B w).setCell (p := ⟨b, 0, none⟩) h.1 _⟩
  · refine (check_used b w h.cell0).mono ?_
    rintro e w' ⟨rfl, rfl⟩
    exact ⟨rfl, h, Below.refl B _⟩
set_option maxHeartbeats 2000000 in
set_option maxRecDepth 100000 in
theorem write (B b : Nat) (bs : List Value) (s : ByteArray) (w : World) (h : Lib.IsBuilder 66 5 B b bs w) (hlen : bs.length + s.size ≤ 1099511627776) (hBw : B ≤ w.heap.size) :
    Calls Try.prog 31 #[.pointer (some ⟨b, 0, none⟩), .string s] w fun e w' => e = .returned (.tuple #[.int .i64 s.size, .nilIface]) ∧ (Lib.BuilderAt 66 5 B b (.pointer (some ⟨b, 0, none⟩)) (bs ++ Lib.strCells s) w' ∧ Below B w w') := by
  obtain ⟨i0, hi, hz0, hz1, hz2⟩ := info_parts info5
  have H := Lib.hid h
  clear h
  go_enter Try.func31, Try.ntmps31
  go_wp2_with fail
  refine (check B b bs w H.out).mono ?_
  rintro e w1 ⟨rfl, h1, hb1⟩
  obtain ⟨hB, v, hbk, hown, hne⟩ := h1
  obtain ⟨ao, n0, cap0, rfl⟩ : ∃ ao n' cap, v = .slice ao n' cap := by
    rcases hown.2 with ⟨hv, _⟩ | ⟨g, cap, cur, hv, _⟩
    · exact ⟨_, _, _, hv⟩
    · exact ⟨_, _, _, hv⟩
  have c0 : w1.cell? ⟨b, 0, none⟩ = some (.pointer (some ⟨b, 0, none⟩)) := by rw [Lib.cell_of_heap hbk]; rfl
  have c1 : w1.cell? ⟨b, 1, none⟩ = some (.slice ao n0 cap0) := by rw [Lib.cell_of_heap hbk]; rfl
  have HO := Lib.hid hown
  have HK := Lib.hid hbk
  have HNE := Lib.hid hne
  have HB1 := Lib.hid hb1
  have hsz := hb1.size
  clear hown hbk hne hb1
  go_wp2_with (at_builtin; refine Lib.wpList_append_own_string _ rfl _ _ 64 9 rfl B 5 i0 Try.underlying64 Try.underlying9 hi hz0 hz1 hz2 _ _ _ rfl HO.out s rfl ?c3 ?c4 ?c5 ?_)
  case c3 => unfold maxLen; omega
  case c4 => omega
  case c5 => omega
  intro v' w2 hown' hgrow _
  have hlt : b < w1.heap.size := by
    rcases Nat.lt_or_ge b w1.heap.size with h' | h'
    · exact h'
    · have := HK.out; simp [Array.getElem?_eq_none h'] at this
  have hb2 : w2.heap[b]? = some (.cells #[.pointer (some ⟨b, 0, none⟩), .slice ao n0 cap0] 66 (0, 0)) := by
    rw [hgrow.block b hlt (fun e => HNE.out e.symm)]
    exact HK.out
  have d0 : w2.cell? ⟨b, 0, none⟩ = some (.pointer (some ⟨b, 0, none⟩)) := by rw [Lib.cell_of_heap hb2]; rfl
  have d1 : w2.cell? ⟨b, 1, none⟩ = some (.slice ao n0 cap0) := by rw [Lib.cell_of_heap hb2]; rfl
  have f1 : w2.frozen? ⟨b, 1, none⟩ = false := Lib.frozen_of_heap hb2 1
  obtain ⟨ao', n', cap', rfl⟩ : ∃ ao n' cap, v' = .slice ao n' cap := by
    rcases hown'.2 with ⟨hv, _⟩ | ⟨g, cap, cur, hv, _⟩
    · exact ⟨_, _, _, hv⟩
    · exact ⟨_, _, _, hv⟩
  have HO2 := Lib.hid hown'
  have HG2 := Lib.hid hgrow
  have HB2 := Lib.hid hb2
  clear hown' hgrow hb2 c0 c1
  go_wp2
  go_ret2
  refine ⟨rfl, ?_, ?_⟩
  · exact Lib.BuilderAt.put (T := 66) (e := 5) hB HB2.out (bs' := bs ++ Lib.strCells s) (by simpa [Lib.strCells_length] using HO2.out) (by decide)
  · exact (HB1.out.grown HG2.out (by omega) (fun k hk => (HO.out.lt k hk).1)).setCell (p := ⟨b, 1, none⟩) hB _
end Go.Proofs.Ytmpiepanajhfdaa.bld
