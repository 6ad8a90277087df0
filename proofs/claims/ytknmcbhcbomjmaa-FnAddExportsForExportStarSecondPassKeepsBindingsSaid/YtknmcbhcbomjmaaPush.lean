/-
  Pushing onto one of several rows of the call's own: what else lies in memory stands.
  Conditions: none.
-/
import Derived.Test.YtknmcbhcbomjmaaWork
import Derived.OwnWalk
namespace Go.Proofs.Ytknmcbhcbomjmaa.kit
open Go.ChangeShapes Go.WideShapes Go.ChangeAt Go.RowKit

theorem own_block {w w2 : World} {base : Nat} {e : TypeId} {size n : Nat} {v : Value} {xs : List Value} (h : w.ownsRow base e size v n xs) (hb : ∀ k, v.ownBlock = some k → w2.heap[k]? = w.heap[k]?) : w2.ownsRow base e size v n xs := by
  refine ⟨h.1, ?_⟩
  rcases h.2 with h2 | ⟨g, cap, cur, e1, e2, hh, r⟩
  · exact Or.inl h2
  · exact Or.inr ⟨g, cap, cur, e1, e2, (hb g (by rw [e1]; rfl)).trans hh, r⟩
theorem own_apart {w : World} {base base2 : Nat} {e e2 : TypeId} {size size2 n n2 : Nat} {v v2 : Value} {xs xs2 : List Value} (h : w.ownsRow base e size v n xs) (h2 : w.ownsRow base2 e2 size2 v2 n2 xs2) (hne : e ≠ e2) : ∀ g, v.ownBlock = some g → v2.ownBlock ≠ some g := by
  intro g hg hg2
  rcases h.2 with ⟨e1, _⟩ | ⟨k, cap, cur, e1, _, hh, _⟩
  · rw [e1] at hg; simp [Value.ownBlock] at hg
  · rcases h2.2 with ⟨e3, _⟩ | ⟨k2, cap2, cur2, e3, _, hh2, _⟩
    · rw [e3] at hg2; simp [Value.ownBlock] at hg2
    · rw [e1] at hg
      rw [e3] at hg2
      have a : k = g := by simpa [Value.ownBlock] using hg
      have b : k2 = g := by simpa [Value.ownBlock] using hg2
      rw [a] at hh
      rw [b, hh] at hh2
      have := Option.some.inj hh2
      injection this with _ e5
      exact hne e5
/-- from W to W2 at most the row of t is turned, which is v now -/
structure Aside (W W2 : World) (t v : Value) : Prop where
  size : W.heap.size ≤ W2.heap.size
  block : ∀ k, k < W.heap.size → t.ownBlock ≠ some k → W2.heap[k]? = W.heap[k]?
  at_ : ∀ g, v.ownBlock = some g → t.ownBlock = some g ∨ W.heap.size ≤ g
section
variable {α : Type} {W W2 : World} {t v : Value}
theorem Aside.wk (h : Aside W W2 t v) {base : Nat} {E : TypeId} {size : Nat} {f : α → List Value} {t2 : Value} {l : List α} (g : Wk W base E size f t2 l) (hs : ∀ k, t.ownBlock = some k → t2.ownBlock ≠ some k) : Wk W2 base E size f t2 l :=
  ⟨g.1, own_block g.2 fun k hk => h.block k (g.2.lt k hk).2 (fun c => hs k c hk)⟩
theorem Aside.sep (h : Aside W W2 t v) {base : Nat} {E : TypeId} {size : Nat} {f : α → List Value} {t2 : Value} {l : List α} (g : Wk W base E size f t2 l) (hs : ∀ k, t.ownBlock = some k → t2.ownBlock ≠ some k) : ∀ k, v.ownBlock = some k → t2.ownBlock ≠ some k := fun k hk c => by
  rcases h.at_ k hk with e | e
  · exact hs k e c
  · have := (g.2.lt k c).2; omega
theorem Aside.blk (h : Aside W W2 t v) {g T : Nat} {cs : List Value} (hb : Blk W g T cs) (hs : t.ownBlock ≠ some g) : Blk W2 g T cs := (h.block g hb.lt hs).trans hb
theorem push1 {w W W2 : World} {E : TypeId} {o : Obj} {e : α → Value} {t v : Value} {l : List α} {u : α} (hk : Kept w W) (h : Wk W w.heap.size E 1 (fun x => [e x]) t l) (hown : W2.ownsRow w.heap.size E 1 v (l.length + 1) (l.flatMap (fun x => [e x]) ++ [e u])) (hg : (W.alloc o).grownBy W2 t.ownBlock) (hat : v.ownBlock = t.ownBlock ∨ v.ownBlock = some (W.alloc o).heap.size) :
    Wk W2 w.heap.size E 1 (fun x => [e x]) v (l ++ [u]) ∧ Kept w W2 ∧ Aside W W2 t v := by
  have h1 : (W.alloc o).heap.size = W.heap.size + 1 := by simp
  refine ⟨Wk.of_own hown (by simp) (by simp), keptGrown (hk.alloc o) hg (fun k hk => (h.2.lt k hk).1), ⟨by have := hg.size; omega, fun k hk ht => ?_, fun g hg => ?_⟩⟩
  · exact (hg.block k (by omega) (fun c => ht c.symm)).trans (Below.heap_alloc W o k hk)
  · rcases hat with c | c
    · exact .inl (c ▸ hg)
    · rw [c] at hg
      have := Option.some.inj hg
      right; omega
end
end Go.Proofs.Ytknmcbhcbomjmaa.kit
