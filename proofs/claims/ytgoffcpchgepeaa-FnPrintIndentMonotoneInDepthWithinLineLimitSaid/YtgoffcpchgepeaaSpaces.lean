/-
  Contracts of the n011_301 helpers over this seat's program: printIndent on a new printer at whatever flags, and the counter of trailing spaces.
  Conditions: the depth lies in [-2^30, 65536]; the output stays below 2^40 bytes.
-/
import Derived.Test.YtgoffcpchgepeaaIndent
import Derived.Deep.QuietTactic
import Derived.BigQuiet
namespace Go.Proofs.Ytgoffcpchgepeaa.spaces
open Go.ChangeShapes Go.WideShapes Go.ChangeAt Go.RowKit
open kit pr line indent

/-- how many pairs of spaces a depth gives under a line limit -/
def pairs (ind lim : Int) : Nat := if 0 < lim ∧ lim ≤ ind * 2 then (lim / 2).toNat else ind.toNat
/-- how many spaces printIndent prints -/
def count (mw nx : Bool) (ind lim : Int) : Nat := if mw then 0 else if nx then 1 else 2 * pairs ind lim
theorem pairs_le (ind lim : Int) (h : ind ≤ 65536) : pairs ind lim ≤ 65536 := by
  unfold pairs; split <;> omega
theorem count_le (mw nx : Bool) (ind lim : Int) (h : ind ≤ 65536) : count mw nx ind lim ≤ 131072 := by
  have := pairs_le ind lim h
  unfold count; split
  · omega
  · split <;> omega
theorem count_mono (mw nx : Bool) (a b lim : Int) (h : a ≤ b) : count mw nx a lim ≤ count mw nx b lim := by
  unfold count pairs
  split
  · omega
  · split
    · omega
    · split <;> split <;> omega
theorem count_lim (mw nx : Bool) (ind lim : Int) (h : 0 < lim) : (count mw nx ind lim : Int) ≤ lim := by
  unfold count pairs
  split
  · omega
  · split
    · omega
    · split <;> omega

/-- what printIndent leaves, whatever the flags -/
def Spaced (w : World) (g : Nat) (a : Option Addr) (ys : List Int) (e : Ending) (w2 : World) : Prop :=
  ∃ cs2 a2 c2 b, e = .returned (.tuple #[]) ∧ Pr w2 g cs2 a2 c2 ys ∧ cs2[59]? = some (.bool b) ∧ Step w w2 g a a2
theorem Indented.spaced {w : World} {g : Nat} {cs : List Value} {a : Option Addr} {xs : List Int} {m : Nat} {b : Bool} {e : Ending} {w2 : World} (h59 : cs[59]? = some (.bool b)) (h : Indented w g cs a xs m e w2) : Spaced w g a (xs ++ List.replicate (2 * m) 32) e w2 := by
  obtain ⟨cs2, a2, c2, h1, h2, h3, h4⟩ := h
  exact ⟨cs2, a2, c2, b, h1, h2, (h3 59 (by decide)).trans h59, h4⟩

section
variable (w : World) (g : Nat) (cs : List Value) (a : Option Addr) (c : Nat) (xs : List Int)
set_option maxHeartbeats 1000000 in
theorem asSpace (h28 : cs[28]? = some (.bool false)) (h59 : cs[59]? = some (.bool true)) (h : Pr w g cs a c xs) (hx : xs.length ≤ 1099511627776) :
    Calls Try.prog 75 #[.pointer (some ⟨g, 0, none⟩)] w (Spaced w g a (xs ++ List.replicate 1 32)) := by
  have hc28 : w.cell? ⟨g, 28, none⟩ = some (.bool false) := by rw [h.blk.cell]; exact h28
  have hc59 : w.cell? ⟨g, 59, none⟩ = some (.bool true) := by rw [h.blk.cell]; exact h59
  have HC := Lib.hid (print w g cs a c xs ⟨#[32]⟩ h (by have : (⟨#[32]⟩ : ByteArray).size = 1 := rfl; omega))
  have H59 := Lib.hid h59
  have hlt59 : 59 < cs.length := (List.getElem?_eq_some_iff.1 h59).1
  clear h h28 h59
  go_enter Try.func75, Try.ntmps75
  go_wp2_with fail
  refine HC.out.mono ?_
  rintro e w3 ⟨a3, c3, rfl, hp3, hs3⟩
  have hb : bytesOf ⟨#[32]⟩ = List.replicate 1 32 := by decide
  rw [hb] at hp3
  have hd59 : w3.cell? ⟨g, 59, none⟩ = some (.bool true) := by rw [hp3.blk.cell, List.getElem?_set_ne (by decide)]; exact H59.out
  have hf59 := hp3.blk.free 59
  have HP3 := Lib.hid hp3
  have HS3 := Lib.hid hs3
  clear hb hp3 hs3 hc28 hc59
  go_wp2
  go_end0
  refine ⟨_, a3, c3, false, rfl, HP3.out.setOther (by decide) _, ?_, HS3.out.setCell _ _⟩
  rw [List.getElem?_set_self (by rw [List.length_set]; exact hlt59)]

theorem indented (mw nx : Bool) (ind lim : Int) (h28 : cs[28]? = some (.bool mw)) (h59 : cs[59]? = some (.bool nx)) (h25 : cs[25]? = some (.int .i64 ind)) (h26 : cs[26]? = some (.int .i64 lim)) (h : Pr w g cs a c xs) (hx : xs.length ≤ 1099511627776)
    (hb0 : -1073741824 ≤ ind) (hb1 : ind ≤ 65536) (hl1 : lim ≤ 9223372036854775807) :
    Calls Try.prog 75 #[.pointer (some ⟨g, 0, none⟩)] w (Spaced w g a (xs ++ List.replicate (count mw nx ind lim) 32)) := by
  cases mw
  case true => exact (minified w g cs a c xs h28 h).mono fun e w2 hr => Indented.spaced h59 hr
  case false =>
    cases nx
    case true => exact asSpace w g cs a c xs h28 h59 h hx
    case false =>
      have hcount : count false false ind lim = 2 * pairs ind lim := rfl
      rw [hcount]
      by_cases hl : lim ≤ 0
      · have e : pairs ind lim = ind.toNat := if_neg (by omega)
        rw [e]
        exact (nolimit w g cs a c xs ind lim _ h28 h59 h25 h26 h hx (by omega) (by omega) hl rfl).mono fun e w2 hr => Indented.spaced h59 hr
      · obtain ⟨l, rfl⟩ := Int.eq_ofNat_of_zero_le (show 0 ≤ lim by omega)
        by_cases hlt : ind * 2 < (l : Int)
        · have e : pairs ind (l : Int) = ind.toNat := if_neg (by omega)
          rw [e]
          exact (below w g cs a c xs ind l _ h28 h59 h25 h26 h hx (by omega) (by omega) (by omega) (by omega) hlt rfl (by omega)).mono fun e w2 hr => Indented.spaced h59 hr
        · have e : pairs ind (l : Int) = l / 2 := by
            unfold pairs
            rw [if_pos (by omega)]
            omega
          rw [e]
          exact (capped w g cs a c xs ind l _ h28 h59 h25 h26 h hx (by omega) (by omega) (by omega) (by omega) (by omega) rfl).mono fun e w2 hr => Indented.spaced h59 hr
end

/-- what ZZprintIndent leaves: the row with its spaces; all else that lay there is as it was, but the row handed in -/
def Out (w : World) (a : Option Addr) (ys : List Int) (e : Ending) (w2 : World) : Prop :=
  ∃ a2 c2 b, e = .returned (.tuple #[.slice a2 ys.length c2, .bool b]) ∧ w2.ownsRow 0 5 1 (.slice a2 ys.length c2) ys.length (ys.map (Value.int .u8)) ∧ Step w w2 w.heap.size a a2

theorem newIndented (w : World) (CS : Array Value) (a : Option Addr) (c : Nat) (xs : List Int) (mw nx : Bool) (ind lim : Int) (e9 : CS[9]? = some (.slice a xs.length c)) (e25 : CS[25]? = some (.int .i64 ind)) (e26 : CS[26]? = some (.int .i64 lim)) (e28 : CS[28]? = some (.bool mw)) (e59 : CS[59]? = some (.bool nx))
    (hown : w.ownsRow 0 5 1 (.slice a xs.length c) xs.length (xs.map (Value.int .u8))) (hx : xs.length ≤ 1099511627776) (hb0 : -1073741824 ≤ ind) (hb1 : ind ≤ 65536) (hl1 : lim ≤ 9223372036854775807) :
    Calls Try.prog 75 #[.pointer (some ⟨w.heap.size, 0, none⟩)] (w.alloc (.cells CS 111)) (Spaced w w.heap.size a (xs ++ List.replicate (count mw nx ind lim) 32)) := by
  have hblk : Blk (w.alloc (.cells CS 111)) w.heap.size 111 CS.toList := by
    have := heap_alloc_new w (.cells CS 111)
    simpa [Blk] using this
  have hp : Pr (w.alloc (.cells CS 111)) w.heap.size CS.toList a c xs := ⟨hblk, by simpa [J] using e9, hown.alloc _⟩
  refine (indented (w.alloc (.cells CS 111)) w.heap.size CS.toList a c xs mw nx ind lim (by simpa using e28) (by simpa using e59) (by simpa using e25) (by simpa using e26) hp hx hb0 hb1 hl1).mono ?_
  rintro e w3 ⟨cs3, a3, c3, b3, h1, h2, h3, h4⟩
  exact ⟨cs3, a3, c3, b3, h1, h2, h3, (Step.of_kept ((Kept.refl w).alloc (.cells CS 111)) w.heap.size a).trans h4⟩

set_option maxRecDepth 100000 in
set_option maxHeartbeats 4000000 in
theorem zzindent (w : World) (a : Option Addr) (c : Nat) (xs : List Int) (mw nx : Bool) (ind lim : Int) (hown : w.ownsRow 0 5 1 (.slice a xs.length c) xs.length (xs.map (Value.int .u8))) (hx : xs.length ≤ 1099511627776)
    (hb0 : -1073741824 ≤ ind) (hb1 : ind ≤ 65536) (hl1 : lim ≤ 9223372036854775807) :
    Calls Try.prog 42 #[.slice a xs.length c, .bool mw, .bool nx, .int .i64 ind, .int .i64 lim] w (Out w a (xs ++ List.replicate (count mw nx ind lim) 32)) := by
  have HO := Lib.hid hown
  have HLM := Lib.hid hl1
  clear hown hl1
  generalize hl : xs.length = len at *
  have HL := Lib.hid hl
  clear hl
  go_enter Try.func42, Try.ntmps42
  go_wp2_with fail
  refine (newIndented w _ a c xs mw nx ind lim ?k9 ?k25 ?k26 ?k28 ?k59 ?kown ?kx hb0 hb1 HLM.out).mono ?_
  case k9 => rw [HL.out]; kernel_rfl
  case k25 => kernel_rfl
  case k26 => kernel_rfl
  case k28 => kernel_rfl
  case k59 => kernel_rfl
  case kown => rw [HL.out]; exact HO.out
  case kx => rw [HL.out]; omega
  rintro e w3 ⟨cs3, a3, c3, b3, rfl, hp3, h359, hs3⟩
  have d9 : w3.cell? ⟨w.heap.size, 9, none⟩ = some (.slice a3 (xs ++ List.replicate (count mw nx ind lim) 32).length c3) := hp3.jcell
  have d59 : w3.cell? ⟨w.heap.size, 59, none⟩ = some (.bool b3) := by rw [hp3.blk.cell]; exact h359
  have HP3 := Lib.hid hp3.own
  have HS3 := Lib.hid hs3
  clear hp3 h359 hs3
  generalize xs ++ List.replicate (count mw nx ind lim) 32 = ys at *
  generalize hyl : ys.length = yl at *
  have HYL := Lib.hid hyl
  clear hyl
  go_wp2
  go_quiet (fail)
  go_wp2
  refine bodyPost_ret (v := .tuple #[.slice a3 yl c3, .bool b3]) (by simp [results, Try.results42]) rfl ?_
  refine ⟨a3, c3, b3, by rw [HYL.out], ?_, ?_⟩
  · rw [HYL.out]
    exact HP3.out
  · have hs := HS3.out
    exact ⟨hs.os, hs.tape, hs.output, hs.size, hs.block, hs.row⟩

theorem getD_left (xs ys : List Int) (k : Nat) (h : k < xs.length) : (xs ++ ys).getD k 0 = xs.getD k 0 := by
  simp only [List.getD_eq_getElem?_getD]
  rw [List.getElem?_append_left h]
theorem getD_spaces (xs : List Int) (N k : Nat) (h : xs.length ≤ k) (h2 : k < xs.length + N) : (xs ++ List.replicate N 32).getD k 0 = 32 := by
  simp only [List.getD_eq_getElem?_getD]
  rw [List.getElem?_append_right h, List.getElem?_replicate, if_pos (by omega)]
  rfl

theorem cell_at {w : World} {b off : Nat} {zs : List Int} (h : ∀ (i : Nat) (hi : i < (zs.map (Value.int .u8)).length), w.cell? ⟨b, off + i, none⟩ = some (zs.map (Value.int .u8))[i]) {i : Nat} (hi : i < zs.length) : w.cell? ⟨b, off + i, none⟩ = some (.int .u8 (zs.getD i 0)) := by
  rw [h i (by simpa using hi)]; simp [hi]

set_option maxHeartbeats 4000000 in
theorem after (w : World) (A : Option Addr) (n c : Nat) (B : Option Addr) (m d : Nat) (xs : List Int) (N : Nat) (hr : Row w A n c ((xs ++ List.replicate N 32).map (Value.int .u8))) (hs : Row w B m d (xs.map (Value.int .u8))) (hn : n ≤ 1099511627776) :
    Calls Try.prog 43 #[.slice A n c, .slice B m d] w fun e w' => e = .returned (.int .i64 (N : Int)) ∧ Kept w w' := by
  have hlx : xs.length + N = n := by have := hr.1; simpa using this
  have hly : xs.length = m := by simpa using hs.1
  have HR := Lib.hid hr
  have HS := Lib.hid hs
  have HX := Lib.hid hlx
  have HY := Lib.hid hly
  have hmn : m ≤ n := by omega
  have hmN : (n : Int) - (m : Int) = (N : Int) := by omega
  clear hr hs hlx hly
  go_enter Try.func43, Try.ntmps43
  go_wp2
  go_loopw [5] (fun t wr => ∃ k : Nat, k ≤ m ∧ t = .int .i64 (k : Int) ∧ Kept w wr) (fun t _ => m - (intOf t).toNat)
  case atStart => exact ⟨0, by omega, rfl, Kept.refl _⟩
  case round =>
    obtain ⟨k, hk, rfl, hkept⟩ := hrel
    by_cases hlt : k < m
    · obtain ⟨b, off, hA, hbl, hcell⟩ := HR.out.2.2.2.2 (by omega)
      obtain ⟨b2, off2, hB, hbl2, hcell2⟩ := HS.out.2.2.2.2 (by omega)
      subst hA
      subst hB
      have hkx : k < xs.length := by rw [HY.out]; exact hlt
      have hck : wr.cell? ⟨b, off + k, none⟩ = some (.int .u8 (xs.getD k 0)) := by
        rw [← getD_left xs (List.replicate N 32) k hkx]
        exact hkept.cell (cell_at hcell (by rw [List.length_append]; omega))
      have hck2 : wr.cell? ⟨b2, off2 + k, none⟩ = some (.int .u8 (xs.getD k 0)) := by
        have := hkept.cell (hcell2 k (by simpa using hkx))
        rw [this]; simp [hkx]
      have hki : (k : Int) < (m : Int) := by omega
      have hkn : (k : Int) < (n : Int) := by omega
      have hk0 : (0 : Int) ≤ (k : Int) := by omega
      have HK := Lib.hid hkept
      clear hcell hcell2 hbl hbl2 hkept
      generalize xs.getD k 0 = x at *
      have hx : (x != x) = false := by simp
      go_wp2
      go_quiet (fail)
      go_wp2
      go_roundw
      case rel => first | exact ⟨k + 1, by omega, by go_num, HK.out.drewN _⟩ | ((repeat apply Exists.intro); exact ⟨⟨k + 1, by omega, by go_num, HK.out.drewN _⟩, rfl⟩)
      case measure => simp [intOf]; omega
    · obtain rfl : k = m := by omega
      go_wp2
      go_loop [6] (fun t => ∃ q : Nat, k ≤ q ∧ q ≤ n ∧ t = .int .i64 (q : Int)) (fun t => n - (intOf t).toNat)
      case atStart => exact ⟨k, Nat.le_refl _, hmn, rfl⟩
      case round =>
        obtain ⟨q, hq1, hq2, rfl⟩ := hrel
        by_cases hlt2 : q < n
        · obtain ⟨b, off, hA, hbl, hcell⟩ := HR.out.2.2.2.2 (by omega)
          subst hA
          have hcq : wr.cell? ⟨b, off + q, none⟩ = some (.int .u8 32) := by
            have h32 := hkept.cell (cell_at hcell (i := q) (by rw [List.length_append, List.length_replicate, HX.out]; exact hlt2))
            rw [getD_spaces xs N q (by rw [HY.out]; exact hq1) (by rw [HX.out]; exact hlt2)] at h32
            exact h32
          clear hcell hbl
          go_wp2
          go_round
          case rel => exact ⟨q + 1, by omega, by omega, by go_num⟩
          case measure => simp [intOf]; omega
        · obtain rfl : q = n := by omega
          go_wp2
          go_ret
          exact ⟨rfl, hkept⟩
end Go.Proofs.Ytgoffcpchgepeaa.spaces
