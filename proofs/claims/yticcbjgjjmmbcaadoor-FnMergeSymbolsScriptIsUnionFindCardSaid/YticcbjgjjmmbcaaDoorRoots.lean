/-
  n011_236's zzRoots over this seat's program: where it answers true, each index comes with the end of its chain.
  Conditions: at most 4096 symbols, targets in range.
-/
import Derived.Test.YticcbjgjjmmbcaaDoorArr2
namespace Go.Proofs.YticcbjgjjmmbcaaDoor.arr
open Go.ChangeShapes Go.WideShapes Go.ChangeAt Go.RowKit
open kit chain arena cut

theorem nodup_len : ∀ (n : Nat) (l : List Nat), l.Nodup → (∀ x ∈ l, x < n) → l.length ≤ n := by
  intro n
  induction n with
  | zero =>
    intro l _ h
    cases l with
    | nil => exact Nat.le_refl _
    | cons x r => exact absurd (h x List.mem_cons_self) (by omega)
  | succ n ih =>
    intro l hd h
    have h1 := ih (l.erase n) (hd.erase n) (fun x hx => by
      have := (hd.mem_erase_iff).1 hx
      have := h x this.2
      omega)
    rw [List.length_erase] at h1
    split at h1 <;> omega
/-- a function's values in a row -/
def rowF (K : IntKind) (n : Nat) (f : Nat → Int) : List Value := (List.range n).map fun j => .int K (f j)
def upd (f : Nat → Int) (x : Nat) (v : Int) : Nat → Int := fun j => if j = x then v else f j
theorem rowF_at (K : IntKind) (f : Nat → Int) {n x : Nat} (h : x < n) : (rowF K n f)[x]? = some (.int K (f x)) := by simp [rowF, h]
theorem rowF_set (K : IntKind) (f : Nat → Int) {n x : Nat} (v : Int) (h : x < n) : (rowF K n f).set x (.int K v) = rowF K n (upd f x v) := by
  apply List.ext_getElem?
  intro j
  by_cases hj : x = j
  · subst hj
    rw [List.getElem?_set_self (by simpa [rowF] using h)]
    simp [rowF, upd, h]
  · rw [List.getElem?_set_ne hj]
    simp only [rowF, List.getElem?_map]
    by_cases hjn : j < n
    · rw [List.getElem?_range hjn]
      have : ¬ j = x := fun e => hj e.symm
      simp [upd, this]
    · simp [hjn]
theorem rowF_const (K : IntKind) (n : Nat) : rowF K n (fun _ => 0) = List.replicate n (.int K 0) := by
  apply List.ext_getElem?
  intro j
  simp only [rowF, List.getElem?_map, List.getElem?_replicate]
  by_cases h : j < n <;> simp [h]

/-- what is known of the finished ones: their root is the end of their chain -/
def Known (n : Nat) (T : Nat → Int) (st ρ : Nat → Int) : Prop := ∀ y, y < n → st y = 2 → ∃ r d, ρ y = ((r : Nat) : Int) ∧ FChain n T d y r
/-- where the first loop stands -/
def Out (w wr : World) (n : Nat) (T : Nat → Int) (q i : Nat) : Prop :=
  ∃ st ρ : Nat → Int, Blk wr q 3 (rowF .i64 n ρ) ∧ Blk wr (q + 1) 5 (rowF .u8 n st) ∧ (∃ cs : List Value, cs.length = n ∧ Blk wr (q + 2) 3 cs) ∧ Kept w wr ∧ Known n T st ρ ∧ ∀ j, j < i → st j = 2
theorem Out.init {w wa : World} {n : Nat} {T : Nat → Int} {q : Nat} (h1 : Blk wa q 3 (List.replicate n (.int .i64 0))) (h2 : Blk wa (q + 1) 5 (List.replicate n (.int .u8 0))) (h3 : ∃ cs : List Value, cs.length = n ∧ Blk wa (q + 2) 3 cs) (hk : Kept w wa) : Out w wa n T q 0 :=
  ⟨fun _ => 0, fun _ => 0, by rw [rowF_const]; exact h1, by rw [rowF_const]; exact h2, h3, hk, fun y _ h => absurd h (show ¬ (0 : Int) = 2 by decide), fun j hj => absurd hj (by omega)⟩

def pathV (xs : List Nat) : List Value := xs.map fun (y : Nat) => Value.int .i64 (y : Int)
/-- where the second loop stands: the path xs, at x -/
structure In (w wr : World) (n : Nat) (T : Nat → Int) (q i : Nat) (st ρ : Nat → Int) (xs : List Nat) (x : Nat) : Prop where
  root : Blk wr q 3 (rowF .i64 n ρ)
  state : Blk wr (q + 1) 5 (rowF .u8 n st)
  path : wr.ownsRow (q + 2) 3 1 (.slice (some ⟨q + 2, 0, none⟩) xs.length n) xs.length (pathV xs)
  kept : Kept w wr
  known : Known n T st ρ
  pre : ∀ j, j < i → st j = 2
  nd : xs.Nodup
  one : ∀ y ∈ xs, y < n ∧ st y = 1
  lead : ∀ r d, FChain n T d x r → ∀ y ∈ xs, ∃ e, FChain n T e y r
  xn : x < n
  hd : (xs = [] ∧ x = i) ∨ i ∈ xs
  sti : st i ≠ 2
theorem In.start {w wr : World} {n : Nat} {T : Nat → Int} {q i : Nat} {st ρ : Nat → Int} (h1 : Blk wr q 3 (rowF .i64 n ρ)) (h2 : Blk wr (q + 1) 5 (rowF .u8 n st)) (h3 : ∃ cs : List Value, cs.length = n ∧ Blk wr (q + 2) 3 cs) (hk : Kept w wr) (hkn : Known n T st ρ) (hp : ∀ j, j < i → st j = 2) (hi : i < n) (hs : st i ≠ 2) (hn : n ≤ maxLen) : In w wr n T q i st ρ [] i := by
  obtain ⟨cs, hl, hb⟩ := h3
  exact ⟨h1, h2, ⟨rfl, Or.inr ⟨q + 2, n, cs.toArray, rfl, Nat.le_refl _, hb, Nat.zero_le _, hn, by simpa using hl, by simp [pathV]⟩⟩, hk, hkn, hp, List.nodup_nil, fun y hy => absurd hy (by simp), fun _ _ _ y hy => absurd hy (by simp), hi, .inl ⟨rfl, rfl⟩, hs⟩
theorem In.room {w wr : World} {n : Nat} {T : Nat → Int} {q i : Nat} {st ρ : Nat → Int} {xs : List Nat} {x : Nat} (h : In w wr n T q i st ρ xs x) (hx : st x ≠ 1) : xs.length + 1 ≤ n := by
  have h1 := nodup_len n (x :: xs) (List.nodup_cons.2 ⟨fun hm => hx (h.one x hm).2, h.nd⟩) (fun y hy => by
    rcases List.mem_cons.1 hy with rfl | hy
    · exact h.xn
    · exact (h.one y hy).1)
  simpa using h1
/-- a step: x is marked and laid on the path -/
theorem In.step {w wr w3 : World} {n : Nat} {T : Nat → Int} {q i : Nat} {st ρ : Nat → Int} {xs : List Nat} {x : Nat} (h : In w wr n T q i st ρ xs x) (hx1 : st x ≠ 1) (hx2 : st x ≠ 2)
    (hg : (((wr.setCell ⟨q + 1, x, none⟩ (.int .u8 1)).alloc (.cells #[.int .i64 (x : Int)] 3))).grownBy w3 (some (q + 2))) (ho : w3.ownsRow (q + 2) 3 1 (.slice (some ⟨q + 2, 0, none⟩) (xs.length + 1) n) (xs.length + 1) (pathV xs ++ [.int .i64 (x : Int)])) (hq : w.heap.size = q) :
    Blk w3 q 3 (rowF .i64 n ρ) ∧ Blk w3 (q + 1) 5 (rowF .u8 n (upd st x 1)) ∧ w3.ownsRow (q + 2) 3 1 (.slice (some ⟨q + 2, 0, none⟩) (xs ++ [x]).length n) (xs ++ [x]).length (pathV (xs ++ [x])) ∧ Kept w w3 ∧ Known n T (upd st x 1) ρ ∧ (∀ j, j < i → upd st x 1 j = 2) ∧ (xs ++ [x]).Nodup ∧ (∀ y ∈ xs ++ [x], y < n ∧ upd st x 1 y = 1) ∧ i ∈ xs ++ [x] ∧ upd st x 1 i ≠ 2 := by
  have hb1 := h.state.set x (.int .u8 1)
  rw [rowF_set .u8 st 1 h.xn] at hb1
  refine ⟨?_, ?_, ?_, ?_, ?_, ?_, ?_, ?_, ?_, ?_⟩
  · exact ((h.root.far (by show q ≠ q + 1; omega) _).alloc _).grown hg (fun e => by injection e with e; omega)
  · exact (hb1.alloc _).grown hg (fun e => by injection e with e; omega)
  · have e1 : (xs ++ [x]).length = xs.length + 1 := by simp
    have e2 : pathV (xs ++ [x]) = pathV xs ++ [.int .i64 (x : Int)] := by simp [pathV]
    rw [e1, e2]; exact ho
  · exact keptGrown ((h.kept.setCell (by show w.heap.size ≤ q + 1; omega) _).alloc _) hg (by omega)
  · intro y hy h2
    by_cases e : y = x
    · rw [upd, if_pos e] at h2; exact absurd h2 (by decide)
    · rw [upd, if_neg e] at h2; exact h.known y hy h2
  · intro j hj
    have h2 := h.pre j hj
    by_cases e : j = x
    · subst e; exact absurd h2 hx2
    · rw [upd, if_neg e]; exact h2
  · rw [List.nodup_append]
    refine ⟨h.nd, by simp, fun a ha b hb => ?_⟩
    rw [List.mem_singleton.1 hb]
    intro e
    subst e
    exact hx1 (h.one _ ha).2
  · intro y hy
    rcases List.mem_append.1 hy with hy | hy
    · have h2 := h.one y hy
      refine ⟨h2.1, ?_⟩
      unfold upd
      split
      · rfl
      · exact h2.2
    · rw [List.mem_singleton.1 hy]
      exact ⟨h.xn, by simp [upd]⟩
  · rcases h.hd with ⟨_, e⟩ | e
    · rw [← e]; simp
    · exact List.mem_append_left _ e
  · unfold upd
    split
    · decide
    · exact h.sti
theorem lead_snoc {n : Nat} {T : Nat → Int} {xs : List Nat} {x : Nat} (hx : x < n) (h0 : 0 ≤ T x) (h : ∀ r d, FChain n T d x r → ∀ y ∈ xs, ∃ e, FChain n T e y r) : ∀ r d, FChain n T d (T x).toNat r → ∀ y ∈ xs ++ [x], ∃ e, FChain n T e y r := by
  intro r d hd y hy
  have h1 : FChain n T (d + 1) x r := ⟨hx, h0, hd⟩
  rcases List.mem_append.1 hy with hy | hy
  · exact h r (d + 1) h1 y hy
  · rw [List.mem_singleton.1 hy]; exact ⟨d + 1, h1⟩

/-- where the third loop stands -/
structure MarkS (w wr : World) (n : Nat) (T : Nat → Int) (q i : Nat) (ys : List Nat) (r k : Nat) (st ρ : Nat → Int) : Prop where
  root : Blk wr q 3 (rowF .i64 n ρ)
  state : Blk wr (q + 1) 5 (rowF .u8 n st)
  path : wr.ownsRow (q + 2) 3 1 (.slice (some ⟨q + 2, 0, none⟩) ys.length n) ys.length (pathV ys)
  kept : Kept w wr
  known : Known n T st ρ
  pre : ∀ j, j < i → st j = 2
  done : ∀ j, j < k → st (ys.getD j 0) = 2
  ch : ∀ y ∈ ys, ∃ e, FChain n T e y r
  inn : ∀ y ∈ ys, y < n
  iy : i ∈ ys
  num : w.heap.size = q
def Mark (w wr : World) (n : Nat) (T : Nat → Int) (q i : Nat) (ys : List Nat) (r k : Nat) : Prop := ∃ st ρ, MarkS w wr n T q i ys r k st ρ
theorem getD_mem {ys : List Nat} {k : Nat} (h : k < ys.length) : ys.getD k 0 ∈ ys := by
  have : ys.getD k 0 = ys[k] := by simp [h]
  rw [this]; exact List.getElem_mem h
theorem MarkS.lt {w wr : World} {n : Nat} {T : Nat → Int} {q i : Nat} {ys : List Nat} {r k j : Nat} {st ρ : Nat → Int} (h : MarkS w wr n T q i ys r k st ρ) (hj : j < ys.length) : ys.getD j 0 < n := h.inn _ (getD_mem hj)
theorem MarkS.pathCell {w wr : World} {n : Nat} {T : Nat → Int} {q i : Nat} {ys : List Nat} {r k j : Nat} {st ρ : Nat → Int} (h : MarkS w wr n T q i ys r k st ρ) (hj : j < ys.length) : wr.cell? ⟨q + 2, j, none⟩ = some (.int .i64 ((ys.getD j 0 : Nat) : Int)) := by
  obtain ⟨b, off, e, hb, hc⟩ := (Row.of_own h.path).2.2.2.2 (by omega)
  injection e with e
  injection e with e1 e2
  have := hc j (by simpa [pathV] using hj)
  rw [← e1, ← e2, Nat.zero_add] at this
  rw [this]
  simp [pathV, hj]
theorem MarkS.next {w wr : World} {n : Nat} {T : Nat → Int} {q i : Nat} {ys : List Nat} {r k : Nat} {st ρ : Nat → Int} (h : MarkS w wr n T q i ys r k st ρ) (hk : k < ys.length) :
    Mark w ((wr.setCell ⟨q, ys.getD k 0, none⟩ (.int .i64 (r : Int))).setCell ⟨q + 1, ys.getD k 0, none⟩ (.int .u8 2)) n T q i ys r (k + 1) := by
  have hyn := h.lt hk
  have hnum := h.num
  refine ⟨upd st (ys.getD k 0) 2, upd ρ (ys.getD k 0) (r : Int), ?_, ?_, ?_, ?_, ?_, ?_, ?_, h.ch, h.inn, h.iy, h.num⟩
  · rw [← rowF_set .i64 ρ (r : Int) hyn]
    exact (h.root.set _ _).far (by show q ≠ q + 1; omega) _
  · rw [← rowF_set .u8 st 2 hyn]
    exact (h.state.far (by show q + 1 ≠ q; omega) _).set _ _
  · refine own_far (own_far h.path ?_) ?_
    · simp [Value.ownBlock]
    · simp [Value.ownBlock]
  · exact (h.kept.setCell (by show w.heap.size ≤ q; omega) _).setCell (by show w.heap.size ≤ q + 1; omega) _
  · intro z hz h2
    by_cases e : z = ys.getD k 0
    · obtain ⟨d, hd⟩ := h.ch _ (getD_mem hk)
      exact ⟨r, d, by rw [upd, if_pos e], by rw [e]; exact hd⟩
    · rw [upd, if_neg e] at h2
      obtain ⟨r2, d2, h3, h4⟩ := h.known z hz h2
      exact ⟨r2, d2, by rw [upd, if_neg e]; exact h3, h4⟩
  · intro j hj
    unfold upd
    split
    · rfl
    · exact h.pre j hj
  · intro j hj
    unfold upd
    split
    · rfl
    · rename_i hne
      rcases Nat.lt_or_ge j k with hh | hh
      · exact h.done j hh
      · obtain rfl : j = k := by omega
        exact absurd rfl hne
theorem Mark.fin {w wr : World} {n : Nat} {T : Nat → Int} {q i : Nat} {ys : List Nat} {r : Nat} (h : Mark w wr n T q i ys r ys.length) : Out w wr n T q (i + 1) := by
  obtain ⟨st, ρ, h⟩ := h
  refine ⟨st, ρ, h.root, h.state, ?_, h.kept, h.known, fun j hj => ?_⟩
  · rcases h.path.2 with ⟨e, _⟩ | ⟨g, cap, cur, e, _, hh, _, _, hs, _⟩
    · injection e with e; cases e
    · injection e with e1 e2 e3
      injection e1 with e1
      injection e1 with e1
      refine ⟨cur.toList, by rw [Array.length_toList, hs, ← e3]; omega, ?_⟩
      rw [e1]
      simpa [Blk] using hh
  · rcases Nat.lt_or_ge j i with hh | hh
    · exact h.pre j hh
    · obtain rfl : j = i := by omega
      obtain ⟨p, hp, e⟩ := List.mem_iff_getElem.1 h.iy
      have := h.done p hp
      have e2 : ys.getD p 0 = j := by simp [hp, e]
      rw [e2] at this
      exact this

/-- what zzRoots leaves -/
def RootsOk (w : World) (n : Nat) (T : Nat → Int) (e : Ending) (w' : World) : Prop :=
  Kept w w' ∧ (e = .returned (.tuple #[.slice none 0 0, .bool false]) ∨
    ∃ R : Nat → Nat, e = .returned (.tuple #[.slice (some ⟨w.heap.size, 0, none⟩) n n, .bool true]) ∧ IntAt w' w.heap.size ((List.range n).map fun i => (R i : Int)) ∧ ∀ i, i < n → ∃ d, FChain n T d i (R i))
theorem Out.roots {w wr : World} {n : Nat} {T : Nat → Int} (h : Out w wr n T w.heap.size n) : RootsOk w n T (.returned (.tuple #[.slice (some ⟨w.heap.size, 0, none⟩) n n, .bool true])) wr := by
  obtain ⟨st, ρ, h1, h2, h3, h4, h5, h6⟩ := h
  refine ⟨h4, Or.inr ⟨fun i => (ρ i).toNat, rfl, ⟨h1.lt, fun i hi => ?_⟩, fun i hi => ?_⟩⟩
  · have hi2 : i < n := by simpa using hi
    obtain ⟨r, d, e, _⟩ := h5 i hi2 (h6 i hi2)
    rw [h1.cell, rowF_at .i64 ρ hi2]
    simp [hi2, e]
  · obtain ⟨r, d, e, hc⟩ := h5 i hi (h6 i hi)
    exact ⟨d, by simp only [e, Int.toNat_natCast]; exact hc⟩

def sliceLen : Value → Nat
  | .slice _ l _ => l
  | _ => 0
theorem info5 : (Tryd.prog.info? 5).map (fun i => (i.zero, i.size, i.bytes)) = some (some (.int .u8 0), 1, 1) := by kernel_rfl
theorem makeBytes (n : Nat) (hn : n ≤ 1048576) : ∃ C : Array Value, C.toList = List.replicate n (.int .u8 0) ∧ ∀ w : World, (Instr.makeSlice 64 (.int .i64 (n : Int)) (.int .i64 (n : Int))).run Tryd.prog w = .ok (.slice (some ⟨w.heap.size, 0, none⟩) n n) (w.alloc (.cells C 5)) :=
  ⟨madeCells #[Value.int .u8 0] n, toList_madeCells_one _ n, fun w => run_make_row' (P := Tryd.prog) 64 5 (.int .u8 0) 1 Tryd.underlying64 info5 rfl .i64 .i64 n (by omega) (by omega) w⟩

set_option maxRecDepth 100000 in
set_option maxHeartbeats 8000000 in
theorem rootsC (tb c n : Nat) (T : Nat → Int) (w : World) (h : IntAt w tb ((List.range n).map T)) (hT : ∀ i, i < n → T i < (n : Int)) (hn0 : 1 ≤ n) (hn : n ≤ 4096) :
    Calls Tryd.prog 11 #[.slice (some ⟨tb, 0, none⟩) n c] w (RootsOk w n T) := by
  obtain ⟨C, hC, hmk⟩ := makeInts n (by omega)
  obtain ⟨D, hD, hmk2⟩ := makeBytes n (by omega)
  obtain ⟨E, hE, hmk3⟩ := make0 (T := 29) (E := 3) Tryd.underlying29 info3 n (n : Int) rfl (by omega) (by unfold maxLen; omega)
  obtain ⟨i0, hi0, hz0, hz1, hz2⟩ := info_parts info3
  have hml : n ≤ maxLen := by unfold maxLen; omega
  have HML := Lib.hid hml
  have HC := Lib.hid hC
  have HD := Lib.hid hD
  have HE := Lib.hid hE
  have H := Lib.hid h
  have HT := Lib.hid hT
  clear hC hD hE h hT hz0 hz2 hml
  go_enter Tryd.func11, Tryd.ntmps11
  go_wp2_with fail
  generalize hq : w.heap.size = q at *
  have HQ := Lib.hid hq
  clear hq
  have htb : tb < q := by have := H.out.1; have := HQ.out; omega
  have HO0 : Hid (Out w (((w.alloc (.cells C 3)).alloc (.cells D 5)).alloc (.cells E 3)) n T q 0) := by
    refine Lib.hid (Out.init ?_ ?_ ⟨E.toList, by simpa using HE.out, ?_⟩ ((((Kept.refl _).alloc _).alloc _).alloc _))
    · have e : C = (List.replicate n (Value.int .i64 0)).toArray := by rw [← Array.toList_inj, HC.out]
      have := Blk.new w 3 (List.replicate n (Value.int .i64 0))
      rw [← e, HQ.out] at this
      exact (this.alloc _).alloc _
    · have e : D = (List.replicate n (Value.int .u8 0)).toArray := by rw [← Array.toList_inj, HD.out]
      have := Blk.new (w.alloc (.cells C 3)) 5 (List.replicate n (Value.int .u8 0))
      rw [← e] at this
      have e2 : (w.alloc (.cells C 3)).heap.size = q + 1 := by simp [HQ.out]
      rw [e2] at this
      exact this.alloc _
    · have := heap_alloc_new ((w.alloc (.cells C 3)).alloc (.cells D 5)) (.cells E 3)
      have e2 : ((w.alloc (.cells C 3)).alloc (.cells D 5)).heap.size = q + 2 := by simp [HQ.out]
      rw [e2] at this
      simpa [Blk] using this
  generalize ((w.alloc (.cells C 3)).alloc (.cells D 5)).alloc (.cells E 3) = wa at *
  clear hmk hmk2 hmk3 HC HD HE
  have e2 : q + 1 + 1 = q + 2 := rfl
  go_loopw [7, 8, 9, 10, 11] (fun t7 t8 _ _ _ wr => ∃ i len : Nat, i ≤ n ∧ len ≤ n ∧ t8 = .int .i64 (i : Int) ∧ t7 = .slice (some ⟨q + 2, 0, none⟩) len n ∧ Out w wr n T q i) (fun _ t _ _ _ _ => n - (intOf t).toNat)
  case atStart => exact ⟨0, 0, by omega, by omega, rfl, rfl, HO0.out⟩
  case round =>
    obtain ⟨i, len, hi, hlen, rfl, rfl, hout⟩ := hrel
    have HOUT := Lib.hid hout
    clear hout e2
    by_cases hlt : i < n
    · obtain ⟨st, ρ, h1, h2, h3, h4, h5, h6⟩ := HOUT.out
      have s0 := (h2.cell i).trans (rowF_at .u8 st hlt)
      have hii : (i : Int) < (n : Int) := by omega
      have hli : (len : Int) ≤ (n : Int) := by omega
      by_cases hst : st i = 2
      · have HON : Hid (Out w wr n T q (i + 1)) := Lib.hid ⟨st, ρ, h1, h2, h3, h4, h5, fun j hj => by
          rcases Nat.lt_or_ge j i with hh | hh
          · exact h6 j hh
          · obtain rfl : j = i := by omega
            exact hst⟩
        rw [hst] at s0
        clear h1 h2 h3 h4 h5 h6 hst
        go_wp2_with fail
        have HRR : Hid (∃ p len : Nat, p ≤ n ∧ len ≤ n ∧ Value.int .i64 ((i : Int) + 1) = .int .i64 (p : Int) ∧ Value.slice (some ⟨q + 2, 0, none⟩) len n = .slice (some ⟨q + 2, 0, none⟩) len n ∧ Out w wr n T q p) := Lib.hid ⟨i + 1, len, by omega, hlen, by go_num, rfl, HON.out⟩
        go_roundw
        case rel => first | exact HRR.out | ((repeat apply Exists.intro); exact ⟨HRR.out, rfl⟩) | exact ⟨i + 1, len, by omega, hlen, by go_num, rfl, HON.out⟩
        case measure => simp [intOf]; omega
      · have hs2 : (st i == 2) = false := by simpa using hst
        have HIN : Hid (In w wr n T q i st ρ [] i) := Lib.hid (In.start h1 h2 h3 h4 h5 h6 hlt hst HML.out)
        clear h1 h2 h3 h4 h5 h6 hst HOUT
        obtain ⟨wo, hwo⟩ : ∃ wo : World, wo = wr := ⟨_, rfl⟩
        subst hwo
        go_wp2_with fail
        go_loopw [7, 9, 10] (fun t7 t9 t10 wr => ∃ (xs : List Nat) (x : Nat) (st ρ : Nat → Int), t7 = .slice (some ⟨q + 2, 0, none⟩) xs.length n ∧ t9 = .int .i64 (x : Int) ∧ t10 = .int .i64 (-1) ∧ In w wr n T q i st ρ xs x) (fun t7 _ _ _ => n - sliceLen t7)
        case atStart => exact ⟨[], i, st, ρ, rfl, rfl, rfl, HIN.out⟩
        case round =>
          obtain ⟨xs, x, st, ρ, rfl, rfl, rfl, hin⟩ := hrel
          clear HIN s0 hs2
          have hxn := hin.xn
          have hxi : (x : Int) < (n : Int) := by omega
          have s0 := (hin.state.cell x).trans (rowF_at .u8 st hxn)
          have r0 := (hin.root.cell x).trans (rowF_at .i64 ρ hxn)
          have hxl : xs.length ≤ n := nodup_len n xs hin.nd (fun y hy => (hin.one y hy).1)
          have HIN := Lib.hid hin
          clear hin
          by_cases hs2 : st x = 2
          · obtain ⟨r, d, hr, hd⟩ := HIN.out.known x hxn hs2
            have HM0 : Hid (Mark w wr n T q i xs r 0) := by
              have hh := HIN.out
              refine Lib.hid ⟨st, ρ, hh.root, hh.state, hh.path, hh.kept, hh.known, hh.pre, fun j hj => absurd hj (by omega), fun y hy => hh.lead r d hd y hy, fun y hy => (hh.one y hy).1, ?_, HQ.out⟩
              rcases hh.hd with ⟨_, e⟩ | e
              · subst e; exact absurd hs2 hh.sti
              · exact e
            have HYL := Lib.hid hxl
            have hrn : r < n := hd.root.1
            rw [hs2] at s0
            rw [hr] at r0
            clear hs2 hr hd HIN
            obtain ⟨wp, hwp⟩ : ∃ wp : World, wp = wr := ⟨_, rfl⟩
            subst hwp
            go_wp2_with fail
            go_loopw [11] (fun t wr => ∃ k : Nat, k ≤ xs.length ∧ t = .int .i64 (k : Int) ∧ Mark w wr n T q i xs r k) (fun t _ => xs.length - (intOf t).toNat)
            case atStart => exact ⟨0, by omega, rfl, HM0.out⟩
            case round =>
              obtain ⟨k, hk, rfl, hmk⟩ := hrel
              have HMK := Lib.hid hmk
              clear hmk HM0
              by_cases hkl : k < xs.length
              · obtain ⟨st2, rt2, hm⟩ := HMK.out
                have hyn := hm.lt hkl
                have p0 := hm.pathCell hkl
                have r0 := (hm.root.cell (xs.getD k 0)).trans (rowF_at .i64 rt2 hyn)
                have s0 := (hm.state.cell (xs.getD k 0)).trans (rowF_at .u8 st2 hyn)
                have r1 := hm.root.free (xs.getD k 0)
                have s1 := hm.state.free (xs.getD k 0)
                have HN := Lib.hid (hm.next hkl)
                have hki : (k : Int) < (xs.length : Int) := by omega
                have hyi : ((xs.getD k 0 : Nat) : Int) < (n : Int) := by omega
                clear hm
                generalize xs.getD k 0 = y at *
                generalize rt2 y = ry at *
                generalize st2 y = sy at *
                go_wp2_with fail
                have HRR : Hid (∃ p : Nat, p ≤ xs.length ∧ Value.int .i64 ((k : Int) + 1) = .int .i64 (p : Int) ∧ Mark w ((wr.setCell ⟨q, y, none⟩ (.int .i64 (r : Int))).setCell ⟨q + 1, y, none⟩ (.int .u8 2)) n T q i xs r p) := Lib.hid ⟨k + 1, by omega, by go_num, HN.out⟩
                go_roundw
                case rel => first | exact HRR.out | ((repeat apply Exists.intro); exact ⟨HRR.out, rfl⟩)
                case measure => simp [intOf]; omega
              · obtain rfl : k = xs.length := by omega
                have HEN := Lib.hid HMK.out.fin
                go_wp2_with fail
                have HRR : Hid (∃ p len : Nat, p ≤ n ∧ len ≤ n ∧ Value.int .i64 ((i : Int) + 1) = .int .i64 (p : Int) ∧ Value.slice (some ⟨q + 2, 0, none⟩) xs.length n = .slice (some ⟨q + 2, 0, none⟩) len n ∧ Out w wr n T q p) := Lib.hid ⟨i + 1, xs.length, by omega, HYL.out, by go_num, rfl, HEN.out⟩
                go_roundw
                case rel => first | exact HRR.out | ((repeat apply Exists.intro); exact ⟨HRR.out, rfl⟩)
                case measure => simp [intOf]; omega
          by_cases hs1 : st x = 1
          · have n2 : ((1 : Int) == 2) = false := rfl
            have HKP := Lib.hid HIN.out.kept
            rw [hs1] at s0
            clear hs1 hs2 HIN
            go_wp2_with fail
            go_ret2
            exact ⟨HKP.out, Or.inl rfl⟩
          have n2 : (st x == 2) = false := by simpa using hs2
          have n1 : (st x == 1) = false := by simpa using hs1
          have z0 := HIN.out.state.free x
          have hroom := HIN.out.room hs1
          have hown := HIN.out.path
          have hown2 : (wr.setCell ⟨q + 1, x, none⟩ (.int .u8 1)).ownsRow (q + 2) 3 1 (.slice (some ⟨q + 2, 0, none⟩) xs.length n) xs.length (pathV xs) := own_far hown (by simp [Value.ownBlock])
          have HOW := Lib.hid hown2
          have hsl := HIN.out.state.lt
          have t0 := HIN.out.kept.cell (H.out.2 x (by simpa using hxn))
          have et : ((List.range n).map T).getD x 0 = T x := by simp [hxn]
          rw [et] at t0
          have hTx := HT.out x hxn
          have HSTEP := Lib.hid (fun w3 hg ho => HIN.out.step (w3 := w3) hs1 hs2 hg ho HQ.out)
          have HLEAD := Lib.hid (fun h0 => lead_snoc (T := T) hxn h0 HIN.out.lead)
          have HLD := Lib.hid HIN.out.lead
          have HKP := Lib.hid HIN.out.kept
          have HNEWS : Hid (∀ j u, [Value.int .i64 (x : Int)][j]? = some u → ((wr.setCell ⟨q + 1, x, none⟩ (.int .u8 1)).alloc (.cells #[.int .i64 (x : Int)] 3)).cell? ((⟨wr.heap.size, 0, none⟩ : Addr).add j) = some u) := by
            have h := oneNews (wr.setCell ⟨q + 1, x, none⟩ (.int .u8 1)) (.int .i64 (x : Int)) 3
            have e : (wr.setCell ⟨q + 1, x, none⟩ (.int .u8 1)).heap.size = wr.heap.size := by simp [World.setCell]
            rw [e] at h
            exact Lib.hid h
          clear hown hown2 et hs1 hs2 HIN
          generalize st x = sx at *
          go_wp2_with (at_builtin; refine wpList_append_fits _ rfl _ _ 29 rfl (q + 2) 3 i0 1 Tryd.underlying29 hi0 hz1 (q + 2) xs.length n (pathV xs) rfl (HOW.out.alloc _) ⟨wr.heap.size, 0, none⟩ 1 1 [.int .i64 (x : Int)] rfl rfl HNEWS.out (one1 _) hroom ?_)
          intro w3 ho hg
          obtain ⟨b1, b2, b3, b4, b5, b6, b7, b8, b9, b10⟩ := HSTEP.out w3 hg ho
          have t3 := b4.cell (H.out.2 x (by simpa using hxn))
          have et : ((List.range n).map T).getD x 0 = T x := by simp [hxn]
          rw [et] at t3
          obtain ⟨ys, hys⟩ : ∃ ys : List Nat, ys = xs ++ [x] := ⟨_, rfl⟩
          have hl : xs.length + 1 = ys.length := by rw [hys]; simp
          rw [← hys] at b3 b7 b8 b9
          clear ho hg et HSTEP t0 HNEWS
          by_cases hneg : T x < 0
          · have HM0 : Hid (Mark w w3 n T q i ys x 0) := by
              refine Lib.hid ⟨upd st x 1, ρ, b1, b2, b3, b4, b5, b6, fun j hj => absurd hj (by omega), fun y hy => ?_, fun y hy => (b8 y hy).1, b9, HQ.out⟩
              rw [hys] at hy
              have h0 : FChain n T 0 x x := ⟨hxn, hneg, rfl⟩
              rcases List.mem_append.1 hy with hy | hy
              · exact HLD.out x 0 h0 y hy
              · rw [List.mem_singleton.1 hy]; exact ⟨0, h0⟩
            have HYL : Hid (ys.length ≤ n) := Lib.hid (by omega)
            clear b1 b2 b3 b4 b5 b6 b7 b8 b9 b10 hys HLEAD HLD
            rw [hl]
            clear hl hroom HOW hxl
            have hyl : ys.length ≤ n := HYL.out
            generalize T x = tx at *
            obtain ⟨wp, hwp⟩ : ∃ wp : World, wp = w3 := ⟨_, rfl⟩
            subst hwp
            go_wp2_with fail
            go_loopw [11] (fun t wr => ∃ k : Nat, k ≤ ys.length ∧ t = .int .i64 (k : Int) ∧ Mark w wr n T q i ys x k) (fun t _ => ys.length - (intOf t).toNat)
            case atStart => exact ⟨0, by omega, rfl, HM0.out⟩
            case round =>
              obtain ⟨k, hk, rfl, hmk⟩ := hrel
              have HMK := Lib.hid hmk
              clear hmk HM0
              by_cases hkl : k < ys.length
              · obtain ⟨st2, rt2, hm⟩ := HMK.out
                have hyn := hm.lt hkl
                have p0 := hm.pathCell hkl
                have r0 := (hm.root.cell (ys.getD k 0)).trans (rowF_at .i64 rt2 hyn)
                have s0 := (hm.state.cell (ys.getD k 0)).trans (rowF_at .u8 st2 hyn)
                have r1 := hm.root.free (ys.getD k 0)
                have s1 := hm.state.free (ys.getD k 0)
                have HN := Lib.hid (hm.next hkl)
                have hki : (k : Int) < (ys.length : Int) := by omega
                have hyi : ((ys.getD k 0 : Nat) : Int) < (n : Int) := by omega
                clear hm
                generalize ys.getD k 0 = y at *
                generalize rt2 y = ry at *
                generalize st2 y = sy at *
                go_wp2_with fail
                have HRR : Hid (∃ p : Nat, p ≤ ys.length ∧ Value.int .i64 ((k : Int) + 1) = .int .i64 (p : Int) ∧ Mark w ((wr.setCell ⟨q, y, none⟩ (.int .i64 (x : Int))).setCell ⟨q + 1, y, none⟩ (.int .u8 2)) n T q i ys x p) := Lib.hid ⟨k + 1, by omega, by go_num, HN.out⟩
                go_roundw
                case rel => first | exact HRR.out | ((repeat apply Exists.intro); exact ⟨HRR.out, rfl⟩)
                case measure => simp [intOf]; omega
              · obtain rfl : k = ys.length := by omega
                have HEN := Lib.hid HMK.out.fin
                go_wp2_with fail
                have HRR : Hid (∃ p len : Nat, p ≤ n ∧ len ≤ n ∧ Value.int .i64 ((i : Int) + 1) = .int .i64 (p : Int) ∧ Value.slice (some ⟨q + 2, 0, none⟩) ys.length n = .slice (some ⟨q + 2, 0, none⟩) len n ∧ Out w wr n T q p) := Lib.hid ⟨i + 1, ys.length, by omega, HYL.out, by go_num, rfl, HEN.out⟩
                go_roundw
                case rel => first | exact HRR.out | ((repeat apply Exists.intro); exact ⟨HRR.out, rfl⟩)
                case measure => simp [intOf]; omega
          · obtain ⟨y, hy⟩ := Int.eq_ofNat_of_zero_le (show 0 ≤ T x by omega)
            have HLL := HLEAD.out (by omega)
            rw [hy] at HLL t3 hTx
            simp only [Int.toNat_natCast] at HLL
            rw [← hys] at HLL
            have HNI : Hid (In w w3 n T q i (upd st x 1) ρ ys y) := Lib.hid ⟨b1, b2, b3, b4, b5, b6, b7, b8, HLL, by omega, .inr b9, b10⟩
            clear b1 b2 b3 b4 b5 b6 b7 b8 b9 b10 hys HLEAD HLD HLL hneg hy
            rw [hl]
            have HRR : Hid (∃ (xs2 : List Nat) (x2 : Nat) (st2 ρ2 : Nat → Int), Value.slice (some ⟨q + 2, 0, none⟩) ys.length n = .slice (some ⟨q + 2, 0, none⟩) xs2.length n ∧ Value.int .i64 (y : Int) = .int .i64 (x2 : Int) ∧ Value.int .i64 (-1) = .int .i64 (-1) ∧ In w w3 n T q i st2 ρ2 xs2 x2) := Lib.hid ⟨ys, y, _, _, rfl, rfl, rfl, HNI.out⟩
            have HL := Lib.hid hl
            clear hl HOW
            go_wp2_with fail
            go_roundw
            case rel => first | exact HRR.out | ((repeat apply Exists.intro); exact ⟨HRR.out, rfl⟩)
            case measure => have := HL.out; simp [sliceLen]; omega
    · obtain rfl : i = n := by omega
      go_wp2_with fail
      go_ret2
      have hq := HQ.out
      subst hq
      exact HOUT.out.roots
end Go.Proofs.YticcbjgjjmmbcaaDoor.arr
