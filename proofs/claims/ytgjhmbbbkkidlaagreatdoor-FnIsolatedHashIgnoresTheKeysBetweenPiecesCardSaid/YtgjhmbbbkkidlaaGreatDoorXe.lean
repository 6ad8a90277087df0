/-
  The starter's walk to its first go statement.
  Conditions: the rows are readable.
-/
import Derived.Test.YtgjhmbbbkkidlaaGreatDoorWa
import Derived.Test.YtgjhmbbbkkidlaaGreatDoorWb
import Derived.Test.YtgjhmbbbkkidlaaGreatDoorXc
import Derived.Test.YtgjhmbbbkkidlaaGreatDoorXd
import Derived.Test.YtgjhmbbbkkidlaaGreatDoorClone32
import Derived.Test.YtgjhmbbbkkidlaaGreatDoorClone8
namespace Go.Proofs.YtgjhmbbbkkidlaaGreatDoor.hash
open Go.ChangeShapes Go.WideShapes Go.ChangeAt Go.RowKit
open Go.Proofs.YtgjhmbbbkkidlaaGreatDoor.kit
/-- the code's run comes to its last part, or returns -/
def Gets2 (P : Program) (last : Code) (R R2 : Act → World → Prop) (c : Code) (a : Act) (w : World) : Prop :=
  ∀ (b : Frame) (k : List Item) (cs : List Frame), ∃ a' w', (R a' w' ∧ Steps P (lone (b.at a (.code c :: k)) cs w) (lone (b.at a' (.code last :: k)) cs w')) ∨ (R2 a' w' ∧ ∃ todo, Steps P (lone (b.at a (.code c :: k)) cs w) (lone { b.at a' todo with mode := .returning } cs w'))
theorem gets2_here {P : Program} {last : Code} {R R2 : Act → World → Prop} {a : Act} {w : World} (h : R a w) : Gets2 P last R R2 last a w := fun _ _ _ => ⟨a, w, .inl ⟨h, Steps.refl _ _⟩⟩
theorem gets2_seq {P : Program} {last : Code} {R R2 : Act → World → Prop} {x y : Code} {a : Act} {w : World} (h : x.wp P (Exit.then (Gets2 P last R R2 y) (fun e a w => e = .ret ∧ R2 a w)) a w) : Gets2 P last R R2 (.seq x y) a w := by
  intro b k cs
  obtain ⟨e, a1, w1, hq, harr⟩ := h b (.code y :: k) cs
  cases e with
  | normal =>
    obtain ⟨a2, w2, ⟨hr, hs⟩ | ⟨hr, t, hs⟩⟩ := hq b k cs
    · exact ⟨a2, w2, .inl ⟨hr, (Steps.one step_seq).trans (Steps.trans harr hs)⟩⟩
    · exact ⟨a2, w2, .inr ⟨hr, t, (Steps.one step_seq).trans (Steps.trans harr hs)⟩⟩
  | ret =>
    obtain ⟨t, hs⟩ := harr
    exact ⟨a1, w1, .inr ⟨hq.2, t, (Steps.one step_seq).trans hs⟩⟩
  | _ => exact (by cases hq.1)
/-- the first parts of a code -/
def cutC : Nat → Code → Code
  | n + 1, .seq x y => .seq x (cutC n y)
  | _, _ => .refuse "cutcutcutcutcu"
def Gets2F (P : Program) (fn : Func) (n : Nat) (R R2 : Act → World → Prop) (a : Act) (w : World) : Prop := ∀ c, fn.body = some c → Gets2 P (.refuse "cutcutcutcutcu") R R2 (cutC n c) a w
theorem gets2F_of {P : Program} {fn : Func} {n : Nat} {R R2 : Act → World → Prop} {a : Act} {w : World} {c : Code} (h : fn.body = some c) (g : Gets2 P (.refuse "cutcutcutcutcu") R R2 (cutC n c) a w) : Gets2F P fn n R R2 a w := fun c' hc => by
  rw [h] at hc
  cases hc
  exact g
/-- a piece of a chunk, apart from the block of the chunks -/
def PcB (w : World) (cb : Nat) (pcs : List Value) (i : Nat) (l : List Int) : Prop := ∃ A x y, pcs[i * 3]? = some (.slice A l.length l.length) ∧ pcs[i * 3 + 1]? = some (.int .u32 x) ∧ pcs[i * 3 + 2]? = some (.int .u8 y) ∧
  l.length ≤ 1048576 ∧ (0 < l.length → ∃ b o, A = some ⟨b, o, none⟩ ∧ b ≠ cb ∧ Bytes w b o l)
/-- a chunk's cells -/
structure ChOk (w : World) (cb : Nat) (ls : List (List Int)) (ccs : List Value) (k : Nat) : Prop where
  z : ccs[k * 22 + 4]? = some .nilIface ∧ ccs[k * 22 + 5]? = some (.slice none 0 0) ∧ ccs[k * 22 + 10]? = some (.slice none 0 0) ∧ ccs[k * 22 + 11]? = some (.slice none 0 0) ∧ ccs[k * 22 + 12]? = some (.slice none 0 0)
  p : ∃ pb pcs, ccs[k * 22 + 13]? = some (.slice (some ⟨pb, 0, none⟩) ls.length ls.length) ∧ Blk w pb 127 pcs ∧ ∀ i, i < ls.length → PcB w cb pcs i (ls.getD i [])
/-- all that the workers and the starter read later -/
structure Ready (w : World) (path : ByteArray) (ls : List (List Int)) (lb cb : Nat) : Prop where
  g1 : w.cell? ⟨1, 0, none⟩ = some (.int .u64 11400714785074694791)
  l : ∃ ob lcs ocs, Blk w lb 123 lcs ∧ lcs[0]? = some (.pointer (some ⟨ob, 0, none⟩)) ∧ lcs[17]? = some (.slice (some ⟨cb, 0, none⟩) 2 2) ∧ Blk w ob 94 ocs ∧ ocs[31]? = some (.string path)
  c : ∃ ccs, Blk w cb 146 ccs ∧ ccs.length = 44 ∧ ∀ k, k < 2 → ChOk w cb ls ccs k
  hn : ls.length ≤ 1048576
  hq : path.size ≤ 1048576
structure AtGo (v : World) (path : ByteArray) (ls : List (List Int)) (a : Act) (w : World) : Prop where
  ex : ∃ lb cb, a.tmps.size = 124 ∧ a.tmps[14]? = some (.pointer (some ⟨lb, 0, none⟩)) ∧ a.defers = [] ∧ Ready w path ls lb cb
structure Early (a : Act) (w : World) : Prop where
  ex : a.tmps[12]? = some (.bool true) ∧ a.defers = []
theorem byte_at (l : List Int) (j : Nat) (hj : j < l.length) (h : j < (l.map byte).length) : (l.map byte)[j] = byte (l.getD j 0) := by
  rw [List.getElem_map]
  simp [byte, List.getD, List.getElem?_eq_getElem hj]
theorem one_cells {w : World} {v : Value} {l : List Int} (h : OneT w v l) : ∃ a l c, v = .slice a l c := by
  obtain ⟨a, e, _⟩ := h
  exact ⟨a, _, _, e⟩
theorem pcB_of {w5 w9 wA wC : World} {cb n : Nat} {cs pcs : List Value} {xs ys : List Int} {ls : List (List Int)} (hs : ∀ i, i < n → (ls.getD i []).length ≤ 1048576) (hv : ∀ j, j < n → ∃ v, cs[j]? = some v ∧ OneT w5 v (ls.getD j []))
    (k9 : Kept w5 w9) (kA : Kept w9 wA) (hc0 : w9.heap.size ≤ cb) (t : Turn wA wC (· = cb)) (p : Pcs n cs pcs xs ys n) {i : Nat} (hi : i < n) : PcB wC cb pcs i (ls.getD i []) := by
  obtain ⟨v, h1, a, rfl, hr⟩ := hv i hi
  obtain ⟨p0, p1, p2⟩ := p i hi
  refine ⟨a, _, _, p0.trans h1, p1, p2, hs i hi, fun hp => ?_⟩
  obtain ⟨b, o, rfl, hlt, hcell⟩ := hr.2.2.2.2 hp
  have hb9 : b < w9.heap.size := Nat.lt_of_lt_of_le hlt k9.size
  have hne : b ≠ cb := by omega
  refine ⟨b, o, rfl, hne, fun j hj => ?_⟩
  have := hcell j (by simpa using hj)
  exact t.cell (kA.cell (k9.cell (this.trans (congrArg some (byte_at _ j hj _))))) hne
theorem ready_of {w4 w5 w9 wA wB wC : World} {path : ByteArray} {ls : List (List Int)} {lb ob cb n pb0 pb1 : Nat} {cs ccs ccs2 ccs3 pcs0 pcs1 : List Value} {xs ys xs' ys' : List Int}
    (g1 : w4.cell? ⟨1, 0, none⟩ = some (.int .u64 11400714785074694791)) (k5 : Kept w4 w5) (k9 : Kept w5 w9) (kA : Kept w9 wA) (hl : ls.length = n) (hn : n ≤ 1048576) (hp : path.size ≤ 1048576) (hs : ∀ i, i < n → (ls.getD i []).length ≤ 1048576)
    (hv : ∀ j, j < n → ∃ v, cs[j]? = some v ∧ OneT w5 v (ls.getD j [])) (ctx : Ctx wA path lb ob cb ccs) (hch : Chunks ccs) (hc0 : w9.heap.size ≤ cb)
    (hb0 : Blk wB pb0 127 pcs0) (p0 : Pcs n cs pcs0 xs ys n) (c2 : Blk wB cb 146 ccs2) (s2 : ccs2[0 * 22 + 13]? = some (.slice (some ⟨pb0, 0, none⟩) n n)) (r2 : ∀ o, o < 0 * 22 + 13 ∨ 0 * 22 + 18 ≤ o → ccs2[o]? = ccs[o]?) (t2 : Turn wA wB (· = cb))
    (hb1 : Blk wC pb1 127 pcs1) (p1 : Pcs n cs pcs1 xs' ys' n) (c3 : Blk wC cb 146 ccs3) (l3 : ccs3.length = 44) (s3 : ccs3[1 * 22 + 13]? = some (.slice (some ⟨pb1, 0, none⟩) n n)) (r3 : ∀ o, o < 1 * 22 + 13 ∨ 1 * 22 + 18 ≤ o → ccs3[o]? = ccs2[o]?) (t3 : Turn wB wC (· = cb)) : Ready wC path ls lb cb := by
  subst hl
  obtain ⟨lcs, hL, hL0, hL17⟩ := ctx.l
  obtain ⟨ocs, hO, hO31⟩ := ctx.o
  have hlc : lb ≠ cb := hL.apart ctx.c (by decide)
  have hoc : ob ≠ cb := hO.apart ctx.c (by decide)
  have hpc : pb0 ≠ cb := hb0.apart c2 (by decide)
  have t := t2.trans t3
  have h1 : 1 < w4.heap.size := World.block_lt_of_cell? w4 _ g1
  have h19 : 1 < w9.heap.size := Nat.lt_of_lt_of_le (Nat.lt_of_lt_of_le h1 k5.size) k9.size
  refine ⟨t.cell (kA.cell (k9.cell (k5.cell g1))) (by show (1 : Nat) ≠ cb; omega), ⟨ob, lcs, ocs, t.blk hL hlc, hL0, hL17, t.blk hO hoc, hO31⟩, ⟨ccs3, c3, l3, fun k hk => ?_⟩, hn, hp⟩
  have hz := hch.zero k hk
  have hsame : ∀ o, o < 13 → ccs3[k * 22 + o]? = ccs[k * 22 + o]? := fun o ho => (r3 _ (by omega)).trans (r2 _ (by omega))
  refine ⟨⟨(hsame 4 (by omega)).trans hz.1, (hsame 5 (by omega)).trans hz.2.1, (hsame 10 (by omega)).trans hz.2.2.1, (hsame 11 (by omega)).trans hz.2.2.2.1, (hsame 12 (by omega)).trans hz.2.2.2.2⟩, ?_⟩
  match k, hk with
  | 0, _ => exact ⟨pb0, pcs0, (r3 _ (by omega)).trans s2, t3.blk hb0 hpc, fun i hi => pcB_of hs hv k9 kA hc0 t p0 hi⟩
  | 1, _ => exact ⟨pb1, pcs1, s3, hb1, fun i hi => pcB_of hs hv k9 kA hc0 t p1 hi⟩
set_option maxRecDepth 100000 in
set_option maxHeartbeats 4000000 in
theorem main_gets (v : World) (path : ByteArray) (A B1 B2 B3 B4 : Option Addr) (n cap n1 n2 n3 n4 c1 c2 c3 c4 : Nat) (ls : List (List Int)) (xs1 ys1 xs2 ys2 : List Int)
    (hp1 : v.cell? ⟨1, 0, none⟩ = some (.int .u64 11400714785074694791)) (h : Rows8 v A n ls) (r1 : Row v B1 n1 c1 (xs1.map (Value.int .u32))) (r2 : Row v B2 n2 c2 (ys1.map (Value.int .u8))) (r3 : Row v B3 n3 c3 (xs2.map (Value.int .u32))) (r4 : Row v B4 n4 c4 (ys2.map (Value.int .u8))) :
    Gets2F Tryz.prog Tryz.f3 14 (AtGo v path ls) Early { tmps := #[.string path, .slice A n cap, .slice B1 n1 c1, .slice B2 n2 c2, .slice B3 n3 c3, .slice B4 n4 c4] ++ Array.replicate 118 undef, defers := [] } v := by
  refine gets2F_of rfl ?_
  simp only [cutC]
  simp only [List.size_toArray, List.length_cons, List.length_nil, Nat.reduceAdd, Nat.reduceSub, Array.replicate_succ, Array.replicate_zero, List.push_toArray, List.append_toArray, List.nil_append, List.cons_append]
  have H := Lib.hid h
  have R1 := Lib.hid r1
  have R2 := Lib.hid r2
  have R3 := Lib.hid r3
  have R4 := Lib.hid r4
  clear h r1 r2 r3 r4
  refine gets2_seq ?_
  go_wp2
  refine gets2_seq ?_
  go_wp2_with (go_at_call 4; fail)
  go_at_call 4
  refine (gate_calls path A n cap ls B1 B2 B3 B4 n1 n2 n3 n4 c1 c2 c3 c4 v H.out).mono ?_
  rintro e w1 ⟨⟨g, rfl, hs⟩, rfl⟩
  cases g with
  | false =>
    go_wp2
    exact ⟨trivial, ⟨rfl, rfl⟩⟩
  | true =>
    obtain ⟨sp, sn, sl, s1, s2, s3, s4⟩ := hs rfl
    clear hs
    have SL := Lib.hid sl
    clear sl
    go_wp2
    refine gets2_seq ?_
    have H5 : ∀ z : Int, z = ((path.size + 4 * n1 + n2 + 4 * n3 + n4 : Nat) : Int) → Calls Tryz.prog 5 #[.slice A n cap, .int .i64 z] w1 fun e w' => (∃ r : Int, e = .returned (.int .i64 r)) ∧ w' = w1 := by
      rintro z rfl
      exact parts_calls A n cap _ ls w1 H.out sn (by omega) SL.out
    have H5 := Lib.hid H5
    go_wp2_with (go_at_call 5; fail)
    go_at_call 5
    refine (H5.out _ (by simp only [Int.natCast_add, Int.natCast_mul]; rfl)).mono ?_
    rintro e w2 ⟨⟨r, rfl⟩, rfl⟩
    clear H5
    go_wp2
    · exact ⟨trivial, ⟨rfl, rfl⟩⟩
    refine gets2_seq ?_
    go_wp2
    refine gets2_seq ?_
    clear H5
    by_cases e1 : n1 = n
    rotate_left
    · have e1' : ¬ (n1 : Int) = (n : Int) := by omega
      go_wp2
      exact ⟨trivial, ⟨rfl, rfl⟩⟩
    subst e1
    by_cases e2 : n2 = n1
    rotate_left
    · have e1' : ¬ (n2 : Int) = (n1 : Int) := by omega
      go_wp2
      exact ⟨trivial, ⟨rfl, rfl⟩⟩
    subst e2
    by_cases e3 : n3 = n2
    rotate_left
    · have e1' : ¬ (n3 : Int) = (n2 : Int) := by omega
      go_wp2
      exact ⟨trivial, ⟨rfl, rfl⟩⟩
    subst e3
    by_cases e4 : n4 = n3
    rotate_left
    · have e1' : ¬ (n4 : Int) = (n3 : Int) := by omega
      go_wp2
      exact ⟨trivial, ⟨rfl, rfl⟩⟩
    subst e4
    go_wp2
    refine gets2_seq ?_
    go_wp2_with (go_at_call 6; fail)
    go_at_call 6
    refine (shape_calls B1 B2 n4 n4 c1 c2 xs1 ys1 w2 R1.out R2.out sn sn).mono ?_
    rintro e w3 ⟨⟨g, rfl, hpos⟩, rfl⟩
    cases g with
    | false =>
      go_wp2
      exact ⟨trivial, ⟨rfl, rfl⟩⟩
    | true =>
      have hpos := hpos rfl
      go_wp2_with (go_at_call 6; fail)
      go_at_call 6
      refine (shape_calls B3 B4 n4 n4 c3 c4 xs2 ys2 w3 R3.out R4.out sn sn).mono ?_
      rintro e w4 ⟨⟨g, rfl, _⟩, rfl⟩
      cases g with
      | false =>
        go_wp2
        exact ⟨trivial, ⟨rfl, rfl⟩⟩
      | true =>
        go_wp2
        refine gets2_seq ?_
        have hp0 : 0 < n4 := by omega
        obtain ⟨_, vs, _, hrow⟩ := H.out
        obtain ⟨ab, ao, eA, _, _⟩ := hrow hp0
        clear hrow
        subst eA
        have H7 := Lib.hid (cloneParts_calls ⟨ab, ao, none⟩ n4 cap ls w4 H.out sn SL.out)
        go_wp2_with (go_at_call 7; refine H7.out.mono ?_; rintro e w5 ⟨g, cs, rfl, hg, hcs, hB, hv, hk5⟩)
        have HB := Lib.hid hB
        have HV := Lib.hid hv
        clear hB hv H7
        refine gets2_seq ?_
        have H8 := Lib.hid (clone32.run B1 n4 c1 xs1 w5 (R1.out.kept hk5) (by omega))
        go_wp2_with (go_at_call 8; refine H8.out.mono ?_; rintro e w6 ⟨a1, rfl, o1, _, hk6⟩)
        have O1 := Lib.hid o1
        clear o1 H8
        refine gets2_seq ?_
        have H9 := Lib.hid (clone8.run B2 n4 c2 ys1 w6 (R2.out.kept (hk5.trans hk6)) (by omega))
        go_wp2_with (go_at_call 9; refine H9.out.mono ?_; rintro e w7 ⟨a2, rfl, o2, _, hk7⟩)
        have O2 := Lib.hid o2
        clear o2 H9
        refine gets2_seq ?_
        have H8 := Lib.hid (clone32.run B3 n4 c3 xs2 w7 (R3.out.kept ((hk5.trans hk6).trans hk7)) (by omega))
        go_wp2_with (go_at_call 8; refine H8.out.mono ?_; rintro e w8 ⟨a3, rfl, o3, _, hk8⟩)
        have O3 := Lib.hid o3
        clear o3 H8
        refine gets2_seq ?_
        have H9 := Lib.hid (clone8.run B4 n4 c4 ys2 w8 (R4.out.kept (((hk5.trans hk6).trans hk7).trans hk8)) (by omega))
        go_wp2_with (go_at_call 9; refine H9.out.mono ?_; rintro e w9 ⟨a4, rfl, o4, _, hk9⟩)
        have O4 := Lib.hid o4
        clear o4 H9
        refine gets2_seq ?_
        have H10 := Lib.hid (linker_calls path w9)
        go_wp2_with (go_at_call 10; refine H10.out.mono ?_; rintro e wA ⟨lb, ob, cb, ccs, rfl, hctx, hch, hl0, ho0, hc0, hkA⟩)
        have HCTX := Lib.hid hctx
        have HCH := Lib.hid hch
        clear hctx hch H10
        refine gets2_seq ?_
        obtain ⟨lcs, hL, hL0, hL17⟩ := HCTX.out.l
        have hC := HCTX.out.c
        have hlc : lb ≠ cb := hL.apart hC (by decide)
        have k59 := ((hk6.trans hk7).trans hk8).trans hk9
        have hgA : Blk wA g 24 cs := HB.out.kept (k59.trans hkA)
        have hgc : g ≠ cb := hgA.apart hC (by decide)
        have hgv : ∀ j, j < n4 → ∃ a l c, cs[j]? = some (.slice a l c) := fun j hj => by
          obtain ⟨v, h1, h2⟩ := HV.out j hj
          obtain ⟨a, l, c, rfl⟩ := one_cells h2
          exact ⟨a, l, c, h1⟩
        have q1 : Row wA a1 n4 n4 (xs1.map (Value.int .u32)) := (Row.of_own O1.out).kept (((hk7.trans hk8).trans hk9).trans hkA)
        have q2 : Row wA a2 n4 n4 (ys1.map (Value.int .u8)) := (Row.of_own O2.out).kept ((hk8.trans hk9).trans hkA)
        have q3 : Row wA a3 n4 n4 (xs2.map (Value.int .u32)) := (Row.of_own O3.out).kept (hk9.trans hkA)
        have q4 : Row wA a4 n4 n4 (ys2.map (Value.int .u8)) := (Row.of_own O4.out).kept hkA
        have f3 : ∀ b, a3.map (·.block) = some b → b ≠ cb := fun b hb => by
          have := (own_lt O3.out b hb).2
          have := hk9.size
          omega
        have f4 : ∀ b, a4.map (·.block) = some b → b ≠ cb := fun b hb => by
          have := (own_lt O4.out b hb).2
          omega
        have H11 : Hid (Calls Tryz.prog 11 #[.pointer (some ⟨lb, 0, none⟩), .int .i64 0, .slice (some ⟨g, 0, none⟩) n4 n4, .slice a1 n4 n4, .slice a2 n4 n4] wA fun e w' => (∃ v, e = .returned v) ∧ Laid wA w' cb 0 n4 ccs cs xs1 ys1) :=
          Lib.hid (laid_calls 0 (by decide) lb cb g n4 n4 n4 lcs ccs cs a1 a2 xs1 ys1 wA hL hL17 hC HCH.out.len hgA hcs hgv q1 q2 sn)
        have HX := Lib.hid (And.intro hL (And.intro hL17 (And.intro hgA (And.intro hgv (And.intro q3 (And.intro q4 (And.intro f3 (And.intro f4 (And.intro hlc (And.intro hgc k59))))))))))
        clear hL hL0 hL17 hC hlc k59 hgA hgc hgv q1 q2 q3 q4 f3 f4
        go_wp2_with (go_at_call 11; refine H11.out.mono ?_; rintro e wB ⟨⟨v, rfl⟩, pb0, pcs0, ccs2, hp0, hb0, hl0, P0, hc2, hl2, s2, r2, t2⟩)
        refine gets2_seq ?_
        obtain ⟨hL, hL17, hgA, hgv, q3, q4, f3, f4, hlc, hgc, k59⟩ := HX.out
        have H12 : Hid (Calls Tryz.prog 11 #[.pointer (some ⟨lb, 0, none⟩), .int .i64 1, .slice (some ⟨g, 0, none⟩) n4 n4, .slice a3 n4 n4, .slice a4 n4 n4] wB fun e w' => (∃ v, e = .returned v) ∧ Laid wB w' cb 1 n4 ccs2 cs xs2 ys2) :=
          Lib.hid (laid_calls 1 (by decide) lb cb g n4 n4 n4 lcs ccs2 cs a3 a4 xs2 ys2 wB (t2.blk hL hlc) hL17 hc2 hl2 (t2.blk hgA hgc) hcs hgv (q3.far t2.size fun b hb hm => t2.block b hb (f3 b hm)) (q4.far t2.size fun b hb hm => t2.block b hb (f4 b hm)) sn)
        have HY := Lib.hid (And.intro hb0 (And.intro P0 (And.intro hc2 (And.intro s2 (And.intro r2 t2)))))
        clear hL hL17 hgA hgv q3 q4 f3 f4 hlc hgc hb0 P0 hc2 s2 r2 t2
        go_wp2_with (go_at_call 11; refine H12.out.mono ?_; rintro e wC ⟨⟨v, rfl⟩, pb1, pcs1, ccs3, hp1', hb1, hl1, P1, hc3, hl3, s3, r3, t3⟩)
        refine gets2_here ⟨lb, cb, rfl, rfl, rfl, ?_⟩
        obtain ⟨hb0, P0, hc2, s2, r2, t2⟩ := HY.out
        exact ready_of hp1 hk5 k59 hkA H.out.1 sn sp SL.out HV.out HCTX.out HCH.out hc0 hb0 P0 hc2 s2 r2 t2 hb1 P1 hc3 hl3 s3 r3 t3
end Go.Proofs.YtgjhmbbbkkidlaaGreatDoor.hash
