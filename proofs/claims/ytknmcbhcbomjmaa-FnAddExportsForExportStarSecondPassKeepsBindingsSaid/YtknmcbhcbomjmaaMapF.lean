/-
  A map in a block by what it answers at each key, whatever its elements' type: looked up, stored into.
  Conditions: the key's type has the bundle Keyed.
-/
import Derived.Test.YtknmcbhcbomjmaaBlk
import Derived.Maps.Own
import Derived.DeepKeys4
namespace Go.Proofs.Ytknmcbhcbomjmaa.mapf
open Go.ChangeMaps Go.MapKept
open Go.Maps (Keyed)
open Classical

/-- block b is a map of n entries that answers f -/
def MapF (P : Program) (k : TypeId) (w : World) (b n : Nat) (f : Value → Option Value) : Prop :=
  ∃ (es : Array MapEntry) (clock : Nat), w.heap[b]? = some (.map es clock) ∧ es.size = n ∧ (∀ e ∈ es.toList, ∃ l, keyOf P k e.key = some l) ∧
    (∀ e ∈ es.toList, f e.key = some e.val) ∧ (∀ v x, f v = some x → ∃ e ∈ es.toList, e.key = v) ∧ es.toList.Pairwise (fun a b => a.key ≠ b.key)

noncomputable def put (f : Value → Option Value) (key val : Value) : Value → Option Value := fun v => if v = key then some val else f v
theorem put_same (f : Value → Option Value) (key val : Value) : put f key val key = some val := if_pos rfl
theorem put_ne (f : Value → Option Value) {key v : Value} (val : Value) (h : v ≠ key) : put f key val v = f v := if_neg h

section
variable {P : Program} {k t e : TypeId} {w w2 : World} {b n : Nat} {f : Value → Option Value}
theorem MapF.lt (h : MapF P k w b n f) : b < w.heap.size := by
  obtain ⟨es, c, hb, _⟩ := h
  apply Classical.byContradiction
  intro hn
  rw [Array.getElem?_eq_none (by omega)] at hb
  cases hb
theorem MapF.made (P : Program) (k : TypeId) (w : World) : MapF P k (w.alloc (.map #[] 0)) w.heap.size 0 (fun _ => none) :=
  ⟨#[], 0, heap_alloc_new w _, rfl, by simp, by simp, by simp, by simp⟩
theorem MapF.of_block (h : MapF P k w b n f) (hb : w2.heap[b]? = w.heap[b]?) : MapF P k w2 b n f := by
  obtain ⟨es, c, h1, r⟩ := h
  exact ⟨es, c, hb.trans h1, r⟩
theorem MapF.kept (h : MapF P k w b n f) (hk : kit.Kept w w2) : MapF P k w2 b n f := h.of_block (hk.block b h.lt)
theorem MapF.look (h : MapF P k w b n f) (K : Keyed P k) (ht : P.underlying t = some (.map k e)) {z : Value} (hz : (zeroValue e).run P w = .ok z w) {key : Value} {kl : Lit} (hkey : keyOf P k key = some kl) (c : Bool) :
    (Instr.lookup t (.map (some b)) key c).run P w = .ok (if c then .tuple #[(f key).getD z, .bool (f key).isSome] else (f key).getD z) w := by
  obtain ⟨es, clock, hb, hn, hk, hf, hg, hd⟩ := h
  rcases K.find w hkey es.toList hk with ⟨h1, h2⟩ | ⟨j, e0, h1, h2, h3⟩
  · have hnone : f key = none := by
      cases hx : f key with
      | none => rfl
      | some x =>
        obtain ⟨e1, h4, h5⟩ := hg key x hx
        exact absurd h5 (h2 e1 h4)
    simp [Instr.lookup, run_underlying ht, MapKept.run_getObj_map hb, K.check w _ hkey, h1, hz, Result.andThen, hnone]
  · have hm0 : e0 ∈ es.toList := List.mem_of_getElem? h2
    have hs : f key = some e0.val := by rw [← h3]; exact hf e0 hm0
    simp [Instr.lookup, run_underlying ht, MapKept.run_getObj_map hb, K.check w _ hkey, h1, Result.andThen, hs]
theorem MapF.store (h : MapF P k w b n f) (K : Keyed P k) (ht : P.underlying t = some (.map k e)) {key : Value} {kl : Lit} (hkey : keyOf P k key = some kl) (val : Value) :
    ∃ o : Obj, (Instr.mapUpdate t (.map (some b)) key val).run P w = .ok () (setBlock w b o) ∧ MapF P k (setBlock w b o) b (if (f key).isSome = true then n else n + 1) (put f key val) := by
  have hlt := h.lt
  obtain ⟨es, clock, hb, hn, hk, hf, hg, hd⟩ := h
  have hself : ∀ o : Obj, (setBlock w b o).heap[b]? = some o := fun o => by simp [setBlock, hlt]
  rcases K.find w hkey es.toList hk with ⟨h1, h2⟩ | ⟨j, e0, h1, h2, h3⟩
  · have hnone : f key = none := by
      cases hx : f key with
      | none => rfl
      | some x =>
        obtain ⟨e1, h4, h5⟩ := hg key x hx
        exact absurd h5 (h2 e1 h4)
    refine ⟨.map (es.push ⟨key, val, clock⟩) (clock + 1), ?_, es.push ⟨key, val, clock⟩, clock + 1, hself _, ?_, ?_, ?_, ?_, ?_⟩
    · simp [Instr.mapUpdate, run_underlying ht, MapKept.run_getObj_map hb, K.check w false hkey, h1, MapKept.run_setObj_map _ hb, Result.andThen, setBlock]
    · rw [hnone]; simp [hn]
    · intro x hx
      simp only [Array.toList_push, List.mem_append, List.mem_singleton] at hx
      rcases hx with hx | rfl
      · exact hk x hx
      · exact ⟨kl, hkey⟩
    · intro x hx
      simp only [Array.toList_push, List.mem_append, List.mem_singleton] at hx
      rcases hx with hx | rfl
      · rw [put_ne _ _ (h2 x hx)]; exact hf x hx
      · exact put_same _ _ _
    · intro v x hx
      by_cases ev : v = key
      · exact ⟨⟨key, val, clock⟩, by simp, ev.symm⟩
      · rw [put_ne _ _ ev] at hx
        obtain ⟨e1, h4, h5⟩ := hg v x hx
        exact ⟨e1, by rw [Array.toList_push]; exact List.mem_append_left _ h4, h5⟩
    · rw [Array.toList_push, List.pairwise_append]
      refine ⟨hd, by simp, fun a ha c hc => ?_⟩
      rw [List.mem_singleton.1 hc]
      exact h2 a ha
  · have hm0 : e0 ∈ es.toList := List.mem_of_getElem? h2
    have hs : f key = some e0.val := by rw [← h3]; exact hf e0 hm0
    have hj : es[j]? = some e0 := by simpa using h2
    have hjl : j < es.toList.length := (List.getElem?_eq_some_iff.1 h2).1
    have hlist : (es.modify j (fun e' => { e' with key := key, val := val })).toList = es.toList.set j { e0 with key := key, val := val } := by rw [Array.toList_modify, modify_eq_set _ _ _ _ h2]
    have hje : es.toList[j] = e0 := by
      have := List.getElem?_eq_getElem hjl
      rw [h2] at this
      exact (Option.some.inj this).symm
    have who : ∀ x ∈ es.toList.set j { e0 with key := key, val := val }, x = { e0 with key := key, val := val } ∨ (x ∈ es.toList ∧ x.key ≠ key) := by
      intro x hx
      obtain ⟨i, hi, ex⟩ := List.getElem_of_mem hx
      rw [List.getElem_set] at ex
      split at ex
      · exact Or.inl ex.symm
      · rename_i hne
        have hi' : i < es.toList.length := by simpa using hi
        refine Or.inr ⟨ex ▸ List.getElem_mem hi', ?_⟩
        rcases Nat.lt_or_gt_of_ne hne with c | c
        · have q := List.pairwise_iff_getElem.1 hd j i hjl hi' c
          rw [hje, ex] at q
          exact fun e => q (h3.trans e.symm)
        · have q := List.pairwise_iff_getElem.1 hd i j hi' hjl c
          rw [hje, ex] at q
          exact fun e => q (e.trans h3.symm)
    refine ⟨.map (es.modify j (fun e' => { e' with key := key, val := val })) clock, ?_, es.modify j (fun e' => { e' with key := key, val := val }), clock, hself _, ?_, ?_, ?_, ?_, ?_⟩
    · simp [Instr.mapUpdate, run_underlying ht, MapKept.run_getObj_map hb, K.check w false hkey, h1, hj, h3, K.stays w hkey, MapKept.run_setObj_map _ hb, Result.andThen, setBlock]
    · rw [hs]; simp [hn]
    · intro x hx
      rw [hlist] at hx
      rcases who x hx with rfl | ⟨hx', _⟩
      · exact ⟨kl, hkey⟩
      · exact hk x hx'
    · intro x hx
      rw [hlist] at hx
      rcases who x hx with rfl | ⟨hx', hne⟩
      · exact put_same _ _ _
      · rw [put_ne _ _ hne]; exact hf x hx'
    · intro v x hx
      rw [hlist]
      by_cases ev : v = key
      · exact ⟨{ e0 with key := key, val := val }, List.mem_set hjl _, ev.symm⟩
      · rw [put_ne _ _ ev] at hx
        obtain ⟨e1, h4, h5⟩ := hg v x hx
        obtain ⟨i, hi, ei⟩ := List.getElem_of_mem h4
        have hij : j ≠ i := by
          rintro rfl
          rw [hje] at ei
          rw [← ei] at h5
          exact ev (h5.symm.trans h3)
        refine ⟨e1, List.mem_iff_getElem.2 ⟨i, by simpa using hi, ?_⟩, h5⟩
        rw [List.getElem_set_ne hij]
        exact ei
    · rw [hlist, List.pairwise_iff_getElem]
      intro i i2 hi hi2 hlt2
      have hii : i < es.toList.length := by simpa using hi
      have hii2 : i2 < es.toList.length := by simpa using hi2
      have h0 := List.pairwise_iff_getElem.1 hd i i2 hii hii2 hlt2
      rw [List.getElem_set, List.getElem_set]
      by_cases c1 : j = i
      · subst c1
        rw [if_pos rfl, if_neg (by omega)]
        rw [hje] at h0
        exact fun q => h0 (h3.trans q)
      · rw [if_neg c1]
        by_cases c2 : j = i2
        · subst c2
          rw [if_pos rfl]
          rw [hje] at h0
          exact fun q => h0 (q.trans h3.symm)
        · rw [if_neg c2]; exact h0
/-- m[k] = v at the operation -/
theorem wpList_put {ops : Array Oper} {rest : List Oper} {o : Oper} {a : Act} {Q : Exit → Act → World → Prop} (hg : o.guard = none) (m x v : Operand) (t : TypeId) (hop : o.op = Op.mapUpdate t m x v) (K : Keyed P k) (ht : P.underlying t = some (.map k e))
    (b n : Nat) (f : Value → Option Value) (hm : a.eval m = .map (some b)) (h : MapF P k w b n f) (key : Value) (kl : Lit) (hx : a.eval x = key) (hkey : keyOf P k key = some kl) (val : Value) (hv : a.eval v = val)
    (hK : ∀ w' : World, (∃ ob, w' = setBlock w b ob) → MapF P k w' b (if (f key).isSome = true then n else n + 1) (put f key val) → wpList P ops Q rest (a.put o.dst undef) w') : wpList P ops Q (o :: rest) a w := by
  refine wpList_plain hg fun K' hK' => ?_
  obtain ⟨ob, hrun, hown⟩ := h.store K ht hkey val
  unfold Oper.wp
  simp [execOp, hop, hm, hx, hv, hrun, Result.andThen]
  exact hK' _ _ (hK _ ⟨ob, rfl⟩ hown)
/-- m[k] at the operation -/
theorem wpList_look {ops : Array Oper} {rest : List Oper} {o : Oper} {a : Act} {Q : Exit → Act → World → Prop} (hg : o.guard = none) (m x : Operand) (t : TypeId) (c : Bool) (hop : o.op = Op.lookup t m x c) (K : Keyed P k) (ht : P.underlying t = some (.map k e))
    {z : Value} (hz : (zeroValue e).run P w = .ok z w) (b n : Nat) (f : Value → Option Value) (hm : a.eval m = .map (some b)) (h : MapF P k w b n f) (key : Value) (kl : Lit) (hx : a.eval x = key) (hkey : keyOf P k key = some kl) (r : Option Value) (hr : f key = r)
    (hK : wpList P ops Q rest (a.put o.dst (if c then .tuple #[r.getD z, .bool r.isSome] else r.getD z)) w) : wpList P ops Q (o :: rest) a w := by
  refine wpList_plain hg fun K' hK' => ?_
  have hrun := h.look K ht hz hkey c
  unfold Oper.wp
  simp [execOp, hop, hm, hx, hrun, Result.andThen]
  rw [hr]
  exact hK' _ _ hK
end
end Go.Proofs.Ytknmcbhcbomjmaa.mapf
