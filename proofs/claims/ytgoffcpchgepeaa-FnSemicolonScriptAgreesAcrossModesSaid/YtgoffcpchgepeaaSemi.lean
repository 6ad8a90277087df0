/-
  Contracts of the n011_80 helpers over this seat's program: a new printer, printSemicolonIfNeeded, the readers of js and needsSemicolon.
  Conditions: the output stays below 2^46 bytes.
-/
import Derived.Test.YtgoffcpchgepeaaPr
namespace Go.Proofs.Ytgoffcpchgepeaa.semi
open Go.ChangeShapes Go.WideShapes Go.ChangeAt Go.RowKit
open kit pr

theorem big : 136 ≤ Try.zeroCells111.size := of_decide_eq_true (by kernel_rfl)

def New (w : World) (a : Option Addr) (c : Nat) (xs : List Int) (b : Bool) (e : Ending) (w2 : World) : Prop :=
  ∃ cs, e = .returned (.pointer (some ⟨w.heap.size, 0, none⟩)) ∧ Pr w2 w.heap.size cs a c xs ∧ cs[135]? = some (.bool b) ∧ Kept w w2

theorem new_of {w : World} {a : Option Addr} {c : Nat} {xs : List Int} {b : Bool} (CS : Array Value) (h9 : CS[9]? = some (.slice a xs.length c)) (h135 : CS[135]? = some (.bool b))
    (hown : w.ownsRow 0 5 1 (.slice a xs.length c) xs.length (xs.map (Value.int .u8))) : New w a c xs b (.returned (.pointer (some ⟨w.heap.size, 0, none⟩))) (w.alloc (.cells CS 111)) := by
  refine ⟨CS.toList, rfl, ⟨?_, by simpa [J] using h9, hown.alloc _⟩, by simpa using h135, (Kept.refl _).alloc _⟩
  have := heap_alloc_new w (.cells CS 111)
  simpa [Blk] using this

set_option maxRecDepth 100000 in
set_option maxHeartbeats 1000000 in
theorem new80 (w : World) (a : Option Addr) (c : Nat) (xs : List Int) (b : Bool) (n : Int) (hown : w.ownsRow 0 5 1 (.slice a xs.length c) xs.length (xs.map (Value.int .u8))) :
    Calls Try.prog 15 #[.slice a xs.length c, .bool b, .int .i64 n, .bool false, .int .i64 0] w (New w a c xs b) := by
  have HO := Lib.hid hown
  clear hown
  generalize hl : xs.length = len at *
  have HL := Lib.hid hl
  clear hl
  go_enter Try.func15, Try.ntmps15
  go_wp2
  go_ret
  have hbig := big
  refine new_of _ ?_ ?_ (by rw [HL.out]; exact HO.out)
  · rw [HL.out]
    (repeat rw [Array.getElem?_setIfInBounds_ne (by decide)])
    rw [Array.getElem?_setIfInBounds_self_of_lt (by omega)]
  · (repeat rw [Array.getElem?_setIfInBounds_ne (by decide)])
    rw [Array.getElem?_setIfInBounds_self_of_lt (by simp only [Array.size_setIfInBounds]; omega)]

theorem js80 (w : World) (g : Nat) (cs : List Value) (a : Option Addr) (c : Nat) (xs : List Int) (h : Pr w g cs a c xs) :
    Calls Try.prog 18 #[.pointer (some ⟨g, 0, none⟩)] w fun e w' => e = .returned (.slice a xs.length c) ∧ w = w' := by
  have hc : w.cell? ⟨g, 9, none⟩ = some (.slice a xs.length c) := h.jcell
  clear h
  generalize xs.length = n at *
  go_enter Try.func18, Try.ntmps18
  go_wp2
  go_ret
  exact ⟨rfl, rfl⟩
theorem needs80 (w : World) (g : Nat) (cs : List Value) (b : Bool) (h : Blk w g 111 cs) (hb : cs[135]? = some (.bool b)) :
    Calls Try.prog 19 #[.pointer (some ⟨g, 0, none⟩)] w fun e w' => e = .returned (.bool b) ∧ w = w' := by
  have hc : w.cell? ⟨g, 135, none⟩ = some (.bool b) := by rw [h.cell]; exact hb
  clear h hb
  go_enter Try.func19, Try.ntmps19
  go_wp2
  go_ret
  exact ⟨rfl, rfl⟩

/-- the output behind printSemicolonIfNeeded -/
def semiOut (b : Bool) (xs : List Int) : List Int := if b then xs ++ [59] else xs

/-- what printSemicolonIfNeeded leaves: at a pending semicolon it prints it and clears the flag -/
def Semied (w : World) (g : Nat) (a : Option Addr) (xs : List Int) (e : Ending) (w2 : World) : Prop :=
  ∃ cs2 a2 c2, e = .returned (.tuple #[]) ∧ Pr w2 g cs2 a2 c2 xs ∧ cs2[135]? = some (.bool false) ∧ Step w w2 g a a2

theorem semi (w : World) (g : Nat) (cs : List Value) (a : Option Addr) (c : Nat) (xs : List Int) (b : Bool) (h : Pr w g cs a c xs) (hb : cs[135]? = some (.bool b)) (hl : xs.length ≤ 1099511627776) :
    Calls Try.prog 69 #[.pointer (some ⟨g, 0, none⟩)] w (Semied w g a (semiOut b xs)) := by
  have hc : w.cell? ⟨g, 135, none⟩ = some (.bool b) := by rw [h.blk.cell]; exact hb
  have HP := Lib.hid h
  have HB := Lib.hid hb
  clear h hb
  cases b
  · go_enter Try.func69, Try.ntmps69
    go_wp2
    go_end0
    exact ⟨cs, a, c, rfl, HP.out, HB.out, Step.refl _ _ _⟩
  · go_enter Try.func69, Try.ntmps69
    go_wp2_with fail
    refine (print w g cs a c xs _ HP.out ?_).mono ?_
    · have : (⟨#[59]⟩ : ByteArray).size = 1 := rfl
      omega
    rintro e w2 ⟨a2, c2, rfl, hp, hs⟩
    have hbo : bytesOf ⟨#[59]⟩ = [59] := by decide
    rw [hbo] at hp
    have hc2 : w2.cell? ⟨g, 135, none⟩ = some (.bool true) := by
      rw [hp.blk.cell, List.getElem?_set_ne (by decide)]; exact HB.out
    have hf2 := hp.blk.free 135
    have HP2 := Lib.hid hp
    have HS := Lib.hid hs
    clear hp hs hc
    go_wp2
    go_end0
    have hp2 := HP2.out
    refine ⟨_, a2, c2, rfl, ⟨hp2.blk.set 135 (.bool false), ?_, ?_⟩, ?_, HS.out.setCell _ _⟩
    · rw [List.getElem?_set_ne (by decide)]; exact hp2.js
    · exact own_far hp2.own (hp2.blk.notOwned hp2.own (by decide))
    · rw [List.getElem?_set_self]
      have h1 := HB.out
      rw [List.length_set]
      apply Classical.byContradiction
      intro hn
      rw [List.getElem?_eq_none (by omega)] at h1
      cases h1
theorem zzsemi (w : World) (g : Nat) (cs : List Value) (a : Option Addr) (c : Nat) (xs : List Int) (b : Bool) (h : Pr w g cs a c xs) (hb : cs[135]? = some (.bool b)) (hl : xs.length ≤ 1099511627776) :
    Calls Try.prog 16 #[.pointer (some ⟨g, 0, none⟩)] w (Semied w g a (semiOut b xs)) := by
  have HC := Lib.hid (semi w g cs a c xs b h hb hl)
  clear h hb
  go_enter Try.func16, Try.ntmps16
  go_wp2_with fail
  refine HC.out.mono ?_
  rintro e w2 ⟨cs2, a2, c2, rfl, hp, hb2, hs⟩
  have HP := Lib.hid hp
  have HB := Lib.hid hb2
  have HS := Lib.hid hs
  clear hp hb2 hs
  go_wp2
  go_end0
  exact ⟨cs2, a2, c2, rfl, HP.out, HB.out, HS.out⟩
end Go.Proofs.Ytgoffcpchgepeaa.semi
