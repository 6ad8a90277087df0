/-
  Plain law of n011_236's cut of n symbols into sources: where each source starts, which ref a flat index has, and chains over flat targets.
  Conditions: none.
-/
import Derived.Test.YticcbjgjjmmbcaaDoorChain
namespace Go.Proofs.YticcbjgjjmmbcaaDoor.cut
open chain

/-- where source k starts: the sizes summed up, never past n; behind the given sizes one source takes the rest -/
def pos (zs : List Int) (n : Nat) : Nat → Nat
  | 0 => 0
  | k + 1 => min n (pos zs n k + (zs.getD k n).toNat)
section
variable (zs : List Int) (n : Nat)
theorem pos_le (k : Nat) : pos zs n k ≤ n := by
  cases k with
  | zero => exact Nat.zero_le _
  | succ k => exact Nat.min_le_left _ _
theorem pos_mono1 (k : Nat) : pos zs n k ≤ pos zs n (k + 1) := by
  have := pos_le zs n k
  simp only [pos]
  omega
theorem pos_mono {j k : Nat} (h : j ≤ k) : pos zs n j ≤ pos zs n k := by
  induction k with
  | zero => obtain rfl : j = 0 := by omega
            exact Nat.le_refl _
  | succ k ih =>
    rcases Nat.lt_or_ge j (k + 1) with hh | hh
    · exact Nat.le_trans (ih (by omega)) (pos_mono1 zs n k)
    · obtain rfl : j = k + 1 := by omega
      exact Nat.le_refl _
theorem pos_last : pos zs n (zs.length + 1) = n := by
  have h : zs.getD zs.length (n : Int) = (n : Int) := by simp
  simp only [pos, h, Int.toNat_natCast]
  omega
/-- how many sources -/
def srcs : Nat := if pos zs n zs.length < n then zs.length + 1 else zs.length
theorem pos_srcs : pos zs n (srcs zs n) = n := by
  unfold srcs
  split
  · exact pos_last zs n
  · have := pos_le zs n zs.length; omega
def cnt (k : Nat) : Nat := pos zs n (k + 1) - pos zs n k
def counts : List Int := (List.range (srcs zs n)).map fun k => (cnt zs n k : Int)
theorem counts_length : (counts zs n).length = srcs zs n := by simp [counts]
theorem counts_at {k : Nat} (h : k < srcs zs n) : (counts zs n).getD k 0 = (cnt zs n k : Int) := by simp [counts, h]
theorem cnt_le (k : Nat) : cnt zs n k ≤ n := by have := pos_le zs n (k + 1); unfold cnt; omega

/-- the source of a flat index, searched from s on -/
def src (i : Nat) : Nat → Nat → Nat
  | 0, s => s
  | f + 1, s => if i < pos zs n (s + 1) then s else src i f (s + 1)
theorem src_ok (i f s : Nat) (h0 : pos zs n s ≤ i) (h1 : i < pos zs n (s + f)) : pos zs n (src zs n i f s) ≤ i ∧ i < pos zs n (src zs n i f s + 1) ∧ src zs n i f s < s + f := by
  induction f generalizing s with
  | zero => simp only [Nat.add_zero] at h1; omega
  | succ f ih =>
    simp only [src]
    split
    · rename_i h; exact ⟨h0, h, by omega⟩
    · rename_i h
      have := ih (s + 1) (by omega) (by rw [show s + 1 + f = s + (f + 1) by omega]; exact h1)
      exact ⟨this.1, this.2.1, by omega⟩
def ref (i : Nat) : Ref := (src zs n i (srcs zs n) 0, i - pos zs n (src zs n i (srcs zs n) 0))
theorem ref_ok {i : Nat} (h : i < n) : pos zs n (ref zs n i).1 ≤ i ∧ i < pos zs n ((ref zs n i).1 + 1) ∧ (ref zs n i).1 < srcs zs n ∧ (ref zs n i).2 = i - pos zs n (ref zs n i).1 := by
  have := src_ok zs n i (srcs zs n) 0 (Nat.zero_le _) (by rw [Nat.zero_add, pos_srcs]; exact h)
  exact ⟨this.1, this.2.1, by have := this.2.2; unfold ref; simp only; omega, rfl⟩
theorem uniq {i s t : Nat} (h1 : pos zs n s ≤ i) (h2 : i < pos zs n (s + 1)) (h3 : pos zs n t ≤ i) (h4 : i < pos zs n (t + 1)) : s = t := by
  rcases Nat.lt_trichotomy s t with h | h | h
  · have := pos_mono zs n (show s + 1 ≤ t by omega); omega
  · exact h
  · have := pos_mono zs n (show t + 1 ≤ s by omega); omega
/-- the search of the program ends at the ref -/
theorem ref_eq {i s : Nat} (h : i < n) (h1 : pos zs n s ≤ i) (h2 : i < pos zs n (s + 1)) : ref zs n i = (s, i - pos zs n s) := by
  obtain ⟨a, b, _, d⟩ := ref_ok zs n h
  have e := uniq zs n a b h1 h2
  exact Prod.ext e (by rw [d, e])
theorem ref_flat {s j : Nat} (h : s < srcs zs n) (hj : j < cnt zs n s) : pos zs n s + j < n ∧ ref zs n (pos zs n s + j) = (s, j) := by
  have hlt : pos zs n s + j < pos zs n (s + 1) := by unfold cnt at hj; omega
  have hn : pos zs n s + j < n := Nat.lt_of_lt_of_le hlt (pos_le zs n _)
  refine ⟨hn, ?_⟩
  rw [ref_eq zs n hn (Nat.le_add_right _ _) hlt]
  simp
theorem ref_inj {i j : Nat} (hi : i < n) (hj : j < n) (h : ref zs n i = ref zs n j) : i = j := by
  obtain ⟨a, b, _, d⟩ := ref_ok zs n hi
  obtain ⟨a2, b2, _, d2⟩ := ref_ok zs n hj
  rw [h] at a b d
  omega
theorem ref_lt {i : Nat} (hi : i < n) : (ref zs n i).2 < cnt zs n (ref zs n i).1 := by
  obtain ⟨a, b, _, d⟩ := ref_ok zs n hi
  unfold cnt
  omega

/-- a table laid source by source: the symbol of a flat index at its ref -/
def lay (f : Nat → Sym) : Tab := fun s => (List.range (cnt zs n s)).map fun j => f (pos zs n s + j)
theorem lay_length (f : Nat → Sym) (s : Nat) : (lay zs n f s).length = cnt zs n s := by simp [lay]
theorem lay_at (f : Nat → Sym) {i : Nat} (h : i < n) : symAt (lay zs n f) (ref zs n i) = f i := by
  obtain ⟨a, b, _, d⟩ := ref_ok zs n h
  have hl := ref_lt zs n h
  simp only [symAt, lay, List.getD_eq_getElem?_getD, List.getElem?_map, List.getElem?_range hl, Option.map_some, Option.getD_some]
  rw [d]
  congr 1
  omega
theorem lay_valid (f : Nat → Sym) {i : Nat} (h : i < n) : Valid (srcs zs n) (lay zs n f) (ref zs n i) := by
  obtain ⟨a, b, c, d⟩ := ref_ok zs n h
  exact ⟨c, by rw [lay_length]; exact ref_lt zs n h⟩
end

/-! ### chains over flat targets -/
/-- x leads in d steps to r, which has no target -/
def FChain (n : Nat) (T : Nat → Int) : Nat → Nat → Nat → Prop
  | 0, x, r => x < n ∧ T x < 0 ∧ x = r
  | d + 1, x, r => x < n ∧ 0 ≤ T x ∧ FChain n T d (T x).toNat r
def fpath (T : Nat → Int) : Nat → Nat → List Nat
  | 0, _ => []
  | d + 1, x => x :: fpath T d (T x).toNat
theorem FChain.lt {n : Nat} {T : Nat → Int} {d x r : Nat} (h : FChain n T d x r) : x < n := by cases d <;> exact h.1
theorem FChain.root {n : Nat} {T : Nat → Int} {d x r : Nat} (h : FChain n T d x r) : r < n ∧ T r < 0 := by
  induction d generalizing x with
  | zero => obtain ⟨h1, h2, rfl⟩ := h; exact ⟨h1, h2⟩
  | succ d ih => exact ih h.2.2
theorem FChain.uniq {n : Nat} {T : Nat → Int} {d d2 x r r2 : Nat} (h : FChain n T d x r) (h2 : FChain n T d2 x r2) : d = d2 ∧ r = r2 := by
  induction d generalizing x d2 with
  | zero =>
    cases d2 with
    | zero => exact ⟨rfl, h.2.2.symm.trans h2.2.2⟩
    | succ d2 => have := h.2.1; have := h2.2.1; omega
  | succ d ih =>
    cases d2 with
    | zero => have := h.2.1; have := h2.2.1; omega
    | succ d2 =>
      obtain ⟨e1, e2⟩ := ih h.2.2 h2.2.2
      exact ⟨by rw [e1], e2⟩
theorem fpath_lt {n : Nat} {T : Nat → Int} {d x r : Nat} (h : FChain n T d x r) : ∀ y ∈ fpath T d x, y < n ∧ 0 ≤ T y := by
  induction d generalizing x with
  | zero => simp [fpath]
  | succ d ih =>
    intro y hy
    rcases List.mem_cons.1 hy with rfl | hy
    · exact ⟨h.1, h.2.1⟩
    · exact ih h.2.2 y hy

/-- the link of flat index i -/
def linkOf (zs : List Int) (n : Nat) (T : Nat → Int) (i : Nat) : Ref := if T i < 0 then inv else ref zs n (T i).toNat
/-- a flat chain is a chain of the table -/
theorem FChain.lift {zs : List Int} {n : Nat} {T : Nat → Int} {f : Nat → Sym} (hn : n ≤ 1048576) (hT : ∀ i, i < n → T i < (n : Int)) (hf : ∀ i, i < n → ((f i).la, (f i).lb) = linkOf zs n T i) {d x r : Nat} (h : FChain n T d x r) :
    Chain (srcs zs n) (lay zs n f) d (ref zs n x) (ref zs n r) ∧ path (lay zs n f) d (ref zs n x) = (fpath T d x).map (ref zs n) := by
  have hl : ∀ y, y < n → lnk (lay zs n f) (ref zs n y) = linkOf zs n T y := fun y hy => by
    unfold lnk; rw [lay_at zs n f hy]; exact hf y hy
  induction d generalizing x with
  | zero =>
    obtain ⟨h1, h2, rfl⟩ := h
    exact ⟨⟨lay_valid zs n f h1, by rw [hl x h1, linkOf, if_pos h2], rfl⟩, rfl⟩
  | succ d ih =>
    obtain ⟨h1, h2, h3⟩ := h
    have e : lnk (lay zs n f) (ref zs n x) = ref zs n (T x).toNat := by rw [hl x h1, linkOf, if_neg (by omega)]
    obtain ⟨i1, i2⟩ := ih h3
    refine ⟨⟨lay_valid zs n f h1, ?_, by rw [e]; exact i1⟩, ?_⟩
    · rw [e]
      intro hc
      have hs := (ref_ok zs n h3.lt).2.2.1
      rw [hc] at hs
      have hp := pos_srcs zs n
      have hlen : (ref zs n (T x).toNat).2 < n := by
        have := ref_lt zs n h3.lt
        have := cnt_le zs n (ref zs n (T x).toNat).1
        omega
      rw [hc] at hlen
      simp only [inv] at hlen
      omega
    · simp only [path, fpath, List.map_cons, e, i2]
end Go.Proofs.YticcbjgjjmmbcaaDoor.cut
