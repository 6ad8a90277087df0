/-
  jsModel's machine with its length bounded; pushing onto one of several stacks in rows of the call's own.
  Conditions: none.
-/
import Derived.Test.YtkogmgonceneeaaCm
import Derived.Test.YtkogmgonceneeaaWork1
import Derived.Test.YtkogmgonceneeaaLeast
import Derived.OwnWalk
namespace Go.Proofs.Ytkogmgonceneeaa.css
open Go.ChangeShapes Go.WideShapes Go.ChangeAt Go.RowKit
open kit dfs

/-- how many have been visited -/
def cnt (d : Nat → Bool) : Nat → Nat
  | 0 => 0
  | n + 1 => cnt d n + if d n = true then 1 else 0
theorem cnt_le (d : Nat → Bool) (n : Nat) : cnt d n ≤ n := by
  induction n with
  | zero => exact Nat.le_refl _
  | succ n ih => simp only [cnt]; split <;> omega
theorem cnt_congr {d d2 : Nat → Bool} {n : Nat} (h : ∀ v, v < n → d v = d2 v) : cnt d n = cnt d2 n := by
  induction n with
  | zero => rfl
  | succ n ih =>
    simp only [cnt]
    rw [ih (fun v hv => h v (by omega)), h n (by omega)]
theorem cnt_mark {d : Nat → Bool} {n t : Nat} (ht : t < n) (hd : d t = false) : cnt (upd d t true) n = cnt d n + 1 := by
  induction n with
  | zero => omega
  | succ n ih =>
    simp only [cnt]
    by_cases e : t = n
    · subst e
      rw [cnt_congr (d := upd d t true) (d2 := d) (fun v hv => upd_ne _ _ (by omega)), upd_same, hd]
      simp
    · have := ih (by omega)
      rw [upd_ne _ _ (by omega)]
      omega
structure Mc (n : Nat) (F : Ct) (e : Nat) (st : List (Nat × Nat × Nat)) (s : St) : Prop where
  m : Mach n F e st s
  c : st.length + s.o.length ≤ cnt s.d n
section
variable {n e v p k : Nat} {F : Ct} {st : List (Nat × Nat × Nat)} {s : St}
theorem Mc.start (he : e < n) : Mc n F e [(e, 0, 0)] (St.mark ⟨fun _ => false, []⟩ e) := ⟨Mach.start he, by
  show 1 + 0 ≤ cnt (upd (fun _ => false) e true) n
  rw [cnt_mark he rfl]
  omega⟩
theorem Mc.inn (h : Mc n F e st s) : ∀ x ∈ st, x.1 < n ∧ x.2.1 ≤ np F x.1 ∧ x.2.2 ≤ plen F x.1 x.2.1 := h.m.inn
theorem Mc.len (h : Mc n F e st s) : st.length + s.o.length ≤ n := Nat.le_trans h.c (cnt_le _ _)
theorem Mc.pop (h : Mc n F e (st ++ [(v, p, k)]) s) (hp : np F v ≤ p) : Mc n F e st (s.emit (C F) v) := ⟨h.m.pop hp, by
  have := h.c
  have h2 : (C F v).length ≤ 1 := by unfold C; split <;> simp
  show st.length + (s.o ++ C F v).length ≤ cnt s.d n
  simp only [List.length_append, List.length_singleton] at this ⊢
  omega⟩
theorem Mc.part (h : Mc n F e (st ++ [(v, p, k)]) s) (hp : p < np F v) (hk : plen F v p ≤ k) : Mc n F e (st ++ [(v, p + 1, 0)]) s := ⟨h.m.part hp hk, by
  have := h.c
  simp only [List.length_append, List.length_singleton] at this ⊢
  exact this⟩
theorem Mc.skip (h : Mc n F e (st ++ [(v, p, k)]) s) (hp : p < np F v) (hk : k < (imps F v p).length) (hs : (imps F v p)[k].1 = true → s.d (imps F v p)[k].2 = true) : Mc n F e (st ++ [(v, p, k + 1)]) s := ⟨h.m.skip hp hk hs, by
  have := h.c
  simp only [List.length_append, List.length_singleton] at this ⊢
  exact this⟩
theorem Mc.push (h : Mc n F e (st ++ [(v, p, k)]) s) (hp : p < np F v) (hk : k < (imps F v p).length) (c : (imps F v p)[k].1 = true) (hn : (imps F v p)[k].2 < n) (hs : s.d (imps F v p)[k].2 = false) :
    Mc n F e (st ++ [(v, p, k + 1)] ++ [((imps F v p)[k].2, 0, 0)]) (s.mark (imps F v p)[k].2) := ⟨h.m.push hp hk c hn hs, by
  have := h.c
  have h2 : cnt (s.mark (imps F v p)[k].2).d n = cnt s.d n + 1 := cnt_mark hn hs
  rw [h2]
  show _ + s.o.length ≤ _
  simp only [List.length_append, List.length_singleton] at this ⊢
  omega⟩
theorem Mc.fin (h : Mc n F e [] s) : Run (T F) (C F) [e] ⟨fun _ => false, []⟩ s := h.m.fin
end

theorem own_block {w w2 : World} {base : Nat} {e : TypeId} {size n : Nat} {v : Value} {xs : List Value} (h : w.ownsRow base e size v n xs) (hb : ∀ k, v.ownBlock = some k → w2.heap[k]? = w.heap[k]?) : w2.ownsRow base e size v n xs := by
  refine ⟨h.1, ?_⟩
  rcases h.2 with h2 | ⟨g, cap, cur, e1, e2, hh, r⟩
  · exact Or.inl h2
  · exact Or.inr ⟨g, cap, cur, e1, e2, (hb g (by rw [e1]; rfl)).trans hh, r⟩
theorem own_apart {w : World} {base base2 : Nat} {e e2 : TypeId} {size size2 n n2 : Nat} {v v2 : Value} {xs xs2 : List Value} (h : w.ownsRow base e size v n xs) (h2 : w.ownsRow base2 e2 size2 v2 n2 xs2) (hne : e ≠ e2) : ∀ g, v.ownBlock = some g → v2.ownBlock ≠ some g := by
  intro g hg hg2
  rcases h.2 with ⟨e1, _⟩ | ⟨k, cap, cur, e1, _, hh, _⟩
  · rw [e1] at hg; simp [Value.ownBlock] at hg
  · rcases h2.2 with ⟨e3, _⟩ | ⟨k2, cap2, cur2, e3, _, hh2, _⟩
    · rw [e3] at hg2; simp [Value.ownBlock] at hg2
    · rw [e1] at hg
      rw [e3] at hg2
      have a : k = g := by simpa [Value.ownBlock] using hg
      have b : k2 = g := by simpa [Value.ownBlock] using hg2
      rw [a] at hh
      rw [b, hh] at hh2
      have := Option.some.inj hh2
      injection this with _ e5
      exact hne e5
/-- from W to W2 at most the row of t is turned, which is v now -/
structure Aside (W W2 : World) (t v : Value) : Prop where
  size : W.heap.size ≤ W2.heap.size
  block : ∀ k, k < W.heap.size → t.ownBlock ≠ some k → W2.heap[k]? = W.heap[k]?
  at_ : ∀ g, v.ownBlock = some g → t.ownBlock = some g ∨ W.heap.size ≤ g
section
variable {α : Type} {W W2 : World} {t v : Value}
theorem Aside.wk (h : Aside W W2 t v) {base : Nat} {E : TypeId} {size : Nat} {f : α → List Value} {t2 : Value} {l : List α} (g : Wk W base E size f t2 l) (hs : ∀ k, t.ownBlock = some k → t2.ownBlock ≠ some k) : Wk W2 base E size f t2 l :=
  ⟨g.1, own_block g.2 fun k hk => h.block k (g.2.lt k hk).2 (fun c => hs k c hk)⟩
theorem Aside.sep (h : Aside W W2 t v) {base : Nat} {E : TypeId} {size : Nat} {f : α → List Value} {t2 : Value} {l : List α} (g : Wk W base E size f t2 l) (hs : ∀ k, t.ownBlock = some k → t2.ownBlock ≠ some k) : ∀ k, v.ownBlock = some k → t2.ownBlock ≠ some k := fun k hk c => by
  rcases h.at_ k hk with e | e
  · exact hs k e c
  · have := (g.2.lt k c).2; omega
theorem Aside.blk (h : Aside W W2 t v) {g T : Nat} {cs : List Value} (hb : Blk W g T cs) (hs : t.ownBlock ≠ some g) : Blk W2 g T cs := (h.block g hb.lt hs).trans hb
theorem push1 {w W W2 : World} {E : TypeId} {o : Obj} {e : α → Value} {t v : Value} {l : List α} {u : α} (hk : Kept w W) (h : Wk W w.heap.size E 1 (fun x => [e x]) t l) (hown : W2.ownsRow w.heap.size E 1 v (l.length + 1) (l.flatMap (fun x => [e x]) ++ [e u])) (hg : (W.alloc o).grownBy W2 t.ownBlock) (hat : v.ownBlock = t.ownBlock ∨ v.ownBlock = some (W.alloc o).heap.size) :
    Wk W2 w.heap.size E 1 (fun x => [e x]) v (l ++ [u]) ∧ Kept w W2 ∧ Aside W W2 t v := by
  have h1 : (W.alloc o).heap.size = W.heap.size + 1 := by simp
  refine ⟨Wk.of_own hown (by simp) (by simp), keptGrown (hk.alloc o) hg (fun k hk => (h.2.lt k hk).1), ⟨by have := hg.size; omega, fun k hk ht => ?_, fun g hg => ?_⟩⟩
  · exact (hg.block k (by omega) (fun c => ht c.symm)).trans (Below.heap_alloc W o k hk)
  · rcases hat with c | c
    · exact .inl (c ▸ hg)
    · rw [c] at hg
      have := Option.some.inj hg
      right; omega
end
theorem info23 : (Try.prog.info? 23).map (fun i => (i.zero, i.size, i.bytes)) = some (some (.int .u32 0), 1, 4) := by kernel_rfl
theorem info3 : (Try.prog.info? 3).map (fun i => (i.zero, i.size, i.bytes)) = some (some (.int .i64 0), 1, 8) := by kernel_rfl
end Go.Proofs.Ytkogmgonceneeaa.css
