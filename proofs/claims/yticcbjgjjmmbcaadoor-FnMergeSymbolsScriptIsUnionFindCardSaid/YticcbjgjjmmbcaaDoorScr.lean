/-
  The state in which FnMergeSymbolsScriptIsUnionFind's script begins, over this seat's program: labels are the chains' ends.
  Conditions: every chain of targets ends.
-/
import Derived.Test.YticcbjgjjmmbcaaDoorUF
import Derived.Test.YticcbjgjjmmbcaaDoorRd2
import Derived.Test.YticcbjgjjmmbcaaDoorRoots2
import Derived.Test.YticcbjgjjmmbcaaDoorMrg
namespace Go.Proofs.YticcbjgjjmmbcaaDoor.scr
open Go.ChangeShapes Go.WideShapes Go.ChangeAt Go.RowKit
open kit chain arena cut arr p236 uf

theorem lnk_lay {zs : List Int} {n : Nat} {T : Nat → Int} {us : List Int} {x : Nat} (hx : x < n) : lnk (lay zs n (symI zs n T us [])) (ref zs n x) = cut.linkOf zs n T x := by
  unfold lnk
  rw [lay_at zs n _ hx]
  rfl
theorem start {zs : List Int} {n : Nat} {T : Nat → Int} {us : List Int} {R : Nat → Nat} (hS : srcs zs n ≤ 4097) (hn : n ≤ 4096) (hT : ∀ i, i < n → T i < (n : Int)) (hR : ∀ i, i < n → ∃ d, FChain n T d i (R i)) :
    Uf zs n (lay zs n (symI zs n T us [])) R (rootSum zs n (lay zs n (symI zs n T us []))) := by
  have up : ∀ x, x < n → ∃ d, Chain (srcs zs n) (lay zs n (symI zs n T us [])) d (ref zs n x) (ref zs n (R x)) := fun x hx => by
    obtain ⟨d, hd⟩ := hR x hx
    exact ⟨d, (FChain.lift (zs := zs) (f := symI zs n T us []) (show n ≤ 1048576 by omega) hT (symI_link zs n T us []) hd).1⟩
  have rl : ∀ x, x < n → R x < n := fun x hx => by obtain ⟨d, hd⟩ := hR x hx; exact hd.root.1
  refine ⟨flat_lay zs n _, fun q hq => ?_, fun q hq => ?_, rl, fun d root hs x y hx hy => ?_, rfl⟩
  · obtain ⟨x, hx, rfl⟩ := (flat_lay zs n _ q).1 hq
    rw [lay_at zs n _ hx]
    simp [symI]
  · obtain ⟨x, hx, rfl⟩ := (flat_lay zs n _ q).1 hq
    obtain ⟨d, hd⟩ := up x hx
    exact ⟨d, _, hd⟩
  · have e : ∀ z, z < n → root (ref zs n z) = ref zs n (R z) := fun z hz => by
      obtain ⟨d2, hd⟩ := up z hz
      exact ((hs _ (lay_valid zs n _ hz)).uniq hd).2
    rw [e x hx, e y hy]
    exact ⟨fun h => by rw [h], fun h => ref_inj zs n (rl x hx) (rl y hy) h⟩
/-- the first sum, as the first loop reckons it -/
def sumK (T : Nat → Int) (us : List Int) (k : Nat) : Nat := sumTo (fun x => if T x < 0 then (us.getD x 0).toNat else 0) k
theorem sumK_root {zs : List Int} {n : Nat} {T : Nat → Int} {us : List Int} (hS : srcs zs n ≤ 4097) (hT : ∀ i, i < n → T i < (n : Int)) : rootSum zs n (lay zs n (symI zs n T us [])) = sumK T us n := by
  refine sumTo_congr (fun x hx => ?_)
  rw [lnk_lay hx, lay_at zs n _ hx]
  unfold cut.linkOf
  by_cases h : T x < 0
  · rw [if_pos h, if_pos rfl, if_pos h]; rfl
  · rw [if_neg h, if_neg h, if_neg]
    exact ref_ne_inv (by have := hT x hx; omega) hS

def SomeBool (w : World) (e : Ending) (w' : World) : Prop := (∃ b, e = .returned (.bool b)) ∧ w = w'
set_option maxHeartbeats 4000000 in
theorem bytes6 (a0 : Option Addr) (n0 c0 : Nat) (a1 : Option Addr) (n1 c1 : Nat) (a2 : Option Addr) (n2 c2 : Nat) (a3 : Option Addr) (n3 c3 : Nat) (w : World) :
    Calls Tryd.prog 6 #[.slice a0 n0 c0, .slice a1 n1 c1, .slice a2 n2 c2, .slice a3 n3 c3] w (SomeBool w) := by
  go_enter Tryd.func6, Tryd.ntmps6
  go_wp2
  all_goals
    go_ret
    exact ⟨⟨_, rfl⟩, rfl⟩
end Go.Proofs.YticcbjgjjmmbcaaDoor.scr
