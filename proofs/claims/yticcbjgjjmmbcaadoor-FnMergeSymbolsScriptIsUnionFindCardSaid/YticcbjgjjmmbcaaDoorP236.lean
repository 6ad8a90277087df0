/-
  Shared words of the n011_236 laws over this seat's program: rows of bools, the depth of a chain, slices that came in.
  Conditions: none.
-/
import Derived.Test.YticcbjgjjmmbcaaDoorBuild
import Derived.Test.YticcbjgjjmmbcaaDoorRoots
import Derived.Test.YticcbjgjjmmbcaaDoorCell
import Derived.Test.YticcbjgjjmmbcaaDoorFollow
namespace Go.Proofs.YticcbjgjjmmbcaaDoor.p236
open Go.ChangeShapes Go.WideShapes Go.ChangeAt Go.RowKit
open kit chain arena cut arr

/-- which indices lie in L -/
def boolRow (n : Nat) (L : List Nat) : List Value := (List.range n).map fun j => .bool (decide (j ∈ L))
theorem boolRow_at {n j : Nat} (L : List Nat) (h : j < n) : (boolRow n L)[j]? = some (.bool (decide (j ∈ L))) := by simp [boolRow, h]
theorem boolRow_nil (n : Nat) : boolRow n [] = List.replicate n (.bool false) := by
  apply List.ext_getElem?
  intro j
  simp only [boolRow, List.getElem?_map, List.getElem?_replicate]
  by_cases h : j < n <;> simp [h]
theorem boolRow_set {n x : Nat} (L : List Nat) (h : x < n) : (boolRow n L).set x (.bool true) = boolRow n (L ++ [x]) := by
  apply List.ext_getElem?
  intro j
  by_cases hj : x = j
  · subst hj
    rw [List.getElem?_set_self (by simpa [boolRow] using h)]
    simp [boolRow, h]
  · rw [List.getElem?_set_ne hj]
    simp only [boolRow, List.getElem?_map]
    by_cases hjn : j < n
    · rw [List.getElem?_range hjn]
      have : ¬ j = x := fun e => hj e.symm
      simp [this]
    · simp [hjn]

open Classical in
noncomputable def dep (n : Nat) (T : Nat → Int) (x : Nat) : Nat := if h : ∃ e, ∃ r, FChain n T e x r then h.choose else 0
theorem dep_eq {n : Nat} {T : Nat → Int} {e x r : Nat} (h : FChain n T e x r) : dep n T x = e := by
  have hx : ∃ e, ∃ r, FChain n T e x r := ⟨e, r, h⟩
  unfold dep
  rw [dif_pos hx]
  obtain ⟨r2, h2⟩ := hx.choose_spec
  exact (FChain.uniq h2 h).1

theorem getD_mem2 {P : Int → Prop} {zs : List Int} (h : ∀ x ∈ zs, P x) {j : Nat} (hj : j < zs.length) : P (zs.getD j 0) := by
  have : zs.getD j 0 = zs[j] := by simp [hj]
  rw [this]; exact h _ (List.getElem_mem hj)
theorem wf16 {n : Int} (h : (Lit.int .u16 n).wf = true) : 0 ≤ n ∧ n ≤ 65535 := by
  simp only [Lit.wf, Bool.and_eq_true, decide_eq_true_eq] at h
  exact h
theorem wfi32 {n : Int} (h : (Lit.int .i32 n).wf = true) : -2147483648 ≤ n ∧ n ≤ 2147483647 := by
  simp only [Lit.wf, Bool.and_eq_true, decide_eq_true_eq] at h
  exact h
theorem wfu32 {n : Int} (h : (Lit.int .u32 n).wf = true) : 0 ≤ n ∧ n ≤ 4294967295 := by
  simp only [Lit.wf, Bool.and_eq_true, decide_eq_true_eq] at h
  exact h
theorem srcs_le {zs : List Int} {n m : Nat} (h : zs.length = m) (hm : m ≤ 4096) : srcs zs n ≤ 4097 := by
  unfold srcs
  split <;> omega
theorem Ints.empty (k : IntKind) (w : World) : Ints k w none 0 [] := ⟨rfl, fun h => absurd h (by omega)⟩
/-- the link of an index in the compressed table -/
theorem lnk_after {zs : List Int} {n : Nat} {T : Nat → Int} {f : Nat → Sym} (hn : n ≤ 1048576) (hT : ∀ i, i < n → T i < (n : Int)) (hf : ∀ i, i < n → ((f i).la, (f i).lb) = cut.linkOf zs n T i) {d x r j : Nat} (h : FChain n T d x r) (hj : j < n) :
    lnk (relink (lay zs n f) (path (lay zs n f) d (ref zs n x)) (ref zs n r)) (ref zs n j) = if j ∈ fpath T d x then ref zs n r else cut.linkOf zs n T j := by
  have hv := lay_valid zs n f hj
  rw [relink_lnk _ _ _ hv, (FChain.lift hn hT hf h).2]
  have hl : lnk (lay zs n f) (ref zs n j) = cut.linkOf zs n T j := by unfold lnk; rw [lay_at zs n f hj]; exact hf j hj
  by_cases hm : j ∈ fpath T d x
  · rw [if_pos hm, if_pos (List.mem_map.2 ⟨j, hm, rfl⟩)]
  · rw [if_neg hm, if_neg, hl]
    intro hc
    obtain ⟨y, hy, e⟩ := List.mem_map.1 hc
    have := ref_inj zs n (fpath_lt h y hy).1 hj e
    subst this
    exact hm hy
theorem infoBool : (Tryd.prog.info? 4).map (fun i => (i.zero, i.size, i.bytes)) = some (some (.bool false), 1, 1) := by kernel_rfl
theorem makeBools (n : Nat) (hn : n ≤ 1048576) : ∃ C : Array Value, C.toList = List.replicate n (.bool false) ∧ ∀ w : World, (Instr.makeSlice 63 (.int .i64 (n : Int)) (.int .i64 (n : Int))).run Tryd.prog w = .ok (.slice (some ⟨w.heap.size, 0, none⟩) n n) (w.alloc (.cells C 4)) :=
  ⟨madeCells #[Value.bool false] n, toList_madeCells_one _ n, fun w => run_make_row' (P := Tryd.prog) 63 4 (.bool false) 1 Tryd.underlying63 infoBool rfl .i64 .i64 n (by omega) (by omega) w⟩
theorem symI_link (zs : List Int) (n : Nat) (T : Nat → Int) (us fs : List Int) : ∀ i, i < n → ((symI zs n T us fs i).la, (symI zs n T us fs i).lb) = cut.linkOf zs n T i := fun _ _ => rfl
end Go.Proofs.YticcbjgjjmmbcaaDoor.p236
