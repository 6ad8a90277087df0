/-
  Contracts of printNewlinePastLineLimit over this seat's program, in both ways.
  Conditions: the output stays below 2^40 bytes; no pending indent-as-space.
-/
import Derived.Test.YtgoffcpchgepeaaIndent
import Derived.Deep.RegionWith
namespace Go.Proofs.Ytgoffcpchgepeaa.past
open Go.ChangeShapes Go.WideShapes Go.ChangeAt Go.RowKit
open kit pr line indent

/-- what is left where the line stands: the cache brought up to date -/
def Stays (w : World) (g : Nat) (cs : List Value) (a : Option Addr) (c : Nat) (xs : List Int) (e : Ending) (w2 : World) : Prop :=
  ∃ cs2, e = .returned (.bool false) ∧ Pr w2 g cs2 a c xs ∧ cs2[69]? = some (.int .i64 (lsU xs xs.length : Int)) ∧ cs2[70]? = some (.int .i64 (xs.length : Int)) ∧ Step w w2 g none none
/-- what is left where the line is broken -/
def Broken (w : World) (g : Nat) (a : Option Addr) (xs : List Int) (m : Nat) (e : Ending) (w2 : World) : Prop :=
  ∃ cs2 a2 c2, e = .returned (.bool true) ∧ Pr w2 g cs2 a2 c2 (xs ++ [10] ++ List.replicate (2 * m) 32) ∧ cs2[69]? = some (.int .i64 (lsU xs xs.length : Int)) ∧ cs2[70]? = some (.int .i64 (xs.length : Int)) ∧ Step w w2 g a a2

theorem Lined.drew {w : World} {g : Nat} {cs : List Value} {a : Option Addr} {c : Nat} {xs : List Int} {e : Ending} {w2 : World} (h : Lined w.drew g cs a c xs e w2) : Lined w g cs a c xs e w2 := by
  obtain ⟨cs2, h1, h2, h3, h4, h5, h6⟩ := h
  exact ⟨cs2, h1, h2, h3, h4, h5, ⟨h6.os, h6.tape, h6.output, h6.size, h6.block, h6.row⟩⟩

theorem step_drew {w w2 : World} {g : Nat} {a a2 : Option Addr} (h : Step w.drew w2 g a a2) : Step w w2 g a a2 := ⟨h.os, h.tape, h.output, h.size, h.block, h.row⟩

set_option maxHeartbeats 2000000 in
theorem past_no (w : World) (g : Nat) (cs : List Value) (a : Option Addr) (c : Nat) (xs : List Int) (lim : Int) (h : Pr w g cs a c xs) (h69 : cs[69]? = some (.int .i64 0)) (h70 : cs[70]? = some (.int .i64 0)) (h26 : cs[26]? = some (.int .i64 lim))
    (hx : xs.length ≤ 1099511627776) (hlt : (xs.length : Int) - (lsU xs xs.length : Int) < lim) :
    Calls Try.prog 73 #[.pointer (some ⟨g, 0, none⟩)] w (Stays w g cs a c xs) := by
  have HZ := Lib.hid (lineLen w.drew g cs a c xs 0 ⟨h.blk, h.js, h.own⟩ h69 h70 (by omega) hx)
  have hc26 : w.cell? ⟨g, 26, none⟩ = some (.int .i64 lim) := by rw [h.blk.cell]; exact h26
  have H26 := Lib.hid h26
  clear h h69 h70 h26
  generalize hv : (xs.length : Int) - (lsU xs xs.length : Int) = v at *
  have HV := Lib.hid hv
  clear hv
  go_enter Try.func73, Try.ntmps73
  go_wp2_with fail
  go_region_with (go_at_call 74; refine HZ.out.mono ?_; rintro e w2 ⟨cs2, rfl, hp2, e69, e70, hoth, hs2⟩; rw [HV.out]; have hd26 : w2.cell? ⟨g, 26, none⟩ = some (.int .i64 lim) := (by rw [hp2.blk.cell, hoth 26 (by decide) (by decide)]; exact H26.out))
  all_goals
    go_wp2
    go_ret
    exact ⟨_, rfl, hp2, e69, e70, step_drew hs2⟩

set_option maxHeartbeats 4000000 in
theorem past_yes (w : World) (g : Nat) (cs : List Value) (a : Option Addr) (c : Nat) (xs : List Int) (lim : Int) (m : Nat) (h : Pr w g cs a c xs) (h69 : cs[69]? = some (.int .i64 0)) (h70 : cs[70]? = some (.int .i64 0)) (h26 : cs[26]? = some (.int .i64 lim))
    (hx : xs.length ≤ 1073741824) (hge : ¬ (xs.length : Int) - (lsU xs xs.length : Int) < lim)
    (hind : ∀ (w : World) (cs' : List Value) (a : Option Addr) (c : Nat) (xs : List Int), Pr w g cs' a c xs → (∀ i, i ≠ 69 → i ≠ 70 → i ≠ 9 → cs'[i]? = cs[i]?) → xs.length ≤ 1099511627776 → Calls Try.prog 75 #[.pointer (some ⟨g, 0, none⟩)] w (Indented w g cs' a xs m)) :
    Calls Try.prog 73 #[.pointer (some ⟨g, 0, none⟩)] w (Broken w g a xs m) := by
  have HZ := Lib.hid (lineLen w.drew g cs a c xs 0 ⟨h.blk, h.js, h.own⟩ h69 h70 (by omega) (by omega))
  have hc26 : w.cell? ⟨g, 26, none⟩ = some (.int .i64 lim) := by rw [h.blk.cell]; exact h26
  have H26 := Lib.hid h26
  have HI := Lib.hid hind
  clear h h69 h70 h26 hind
  generalize hv : (xs.length : Int) - (lsU xs xs.length : Int) = v at *
  have HV := Lib.hid hv
  clear hv
  go_enter Try.func73, Try.ntmps73
  go_wp2_with fail
  go_region_with (go_at_call 74; refine HZ.out.mono ?_; rintro e w2 ⟨cs2, rfl, hp2, e69, e70, hoth, hs2⟩; rw [HV.out]; have hd26 : w2.cell? ⟨g, 26, none⟩ = some (.int .i64 lim) := (by rw [hp2.blk.cell, hoth 26 (by decide) (by decide)]; exact H26.out))
  all_goals
    have HP2 := Lib.hid hp2
    have E69 := Lib.hid e69
    have E70 := Lib.hid e70
    have HO := Lib.hid hoth
    have HS2 := Lib.hid (step_drew hs2)
    clear hp2 e69 e70 hoth hs2
    go_wp2_with fail
    refine (print _ g cs2 a c xs ⟨#[10]⟩ HP2.out (by have : (⟨#[10]⟩ : ByteArray).size = 1 := rfl; omega)).mono ?_
    rintro e w3 ⟨a3, c3, rfl, hp3, hs3⟩
    have hb : bytesOf ⟨#[10]⟩ = [10] := by decide
    rw [hb] at hp3
    have HC := Lib.hid (HI.out w3 _ a3 c3 _ hp3 (fun i q1 q2 q3 => by rw [List.getElem?_set_ne (fun e => q3 (by rw [← e]; rfl))]; exact HO.out i q1 q2) (by rw [List.length_append]; simp; omega))
    have HS3 := Lib.hid hs3
    clear hb hp3 hs3
    go_wp2_with fail
    refine HC.out.mono ?_
    rintro e w4 ⟨cs4, a4, c4, rfl, hp4, ho4, hs4⟩
    have HP4 := Lib.hid hp4
    have HO4 := Lib.hid ho4
    have HS4 := Lib.hid hs4
    clear hp4 ho4 hs4
    go_wp2
    go_ret
    refine ⟨cs4, a4, c4, rfl, HP4.out, ?_, ?_, ?_⟩
    · rw [HO4.out 69 (by decide), List.getElem?_set_ne (by decide)]; exact E69.out
    · rw [HO4.out 70 (by decide), List.getElem?_set_ne (by decide)]; exact E70.out
    · have s2 : Step w w2 g a a := ⟨HS2.out.os, HS2.out.tape, HS2.out.output, HS2.out.size, fun k hk hg _ => HS2.out.block k hk hg (by simp), .inl rfl⟩
      exact (s2.trans HS3.out).trans HS4.out
end Go.Proofs.Ytgoffcpchgepeaa.past
