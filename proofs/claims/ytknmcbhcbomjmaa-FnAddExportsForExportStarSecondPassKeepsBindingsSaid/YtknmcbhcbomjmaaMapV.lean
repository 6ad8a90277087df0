/-
  A map in a block by what it answers at each key, whatever its elements' type: made, looked up, stored into, counted, and walked by range.
  Conditions: the key's type has the bundle Keyed.
-/
import Derived.Test.YtknmcbhcbomjmaaBlk
import Derived.Maps.Own
import Derived.Maps.OwnSet
import Derived.Maps.RangeWalk
import Derived.DeepKeys4
namespace Go.Proofs.Ytknmcbhcbomjmaa.mapv
open Go.ChangeMaps Go.MapKept
open Go.Maps (Keyed)
open Classical

/-- an element stands for itself -/
def HV (v : Value) : Option (DataW Value × List MemPlace) := some (.held v, [])
/-- the datum answers as f does -/
def Rep (P : Program) (k : TypeId) (D : DataW Value) (f : Value → Option Value) : Prop :=
  (∀ key, keyOf P k key = none → f key = none) ∧ ∀ key kl, keyOf P k key = some kl → (f key = none → ∀ z, D.atKey kl z = z) ∧ ∀ x, f key = some x → ∀ z, D.atKey kl z = .held x
/-- block b is a map of n entries that answers f -/
def MapV (P : Program) (k : TypeId) (w : World) (b n : Nat) (f : Value → Option Value) : Prop := ∃ D, w.ownsMap P k HV b n D ∧ Maps.size D = n ∧ Rep P k D f
noncomputable def put (f : Value → Option Value) (key val : Value) : Value → Option Value := fun v => if v = key then some val else f v
theorem put_same (f : Value → Option Value) (key val : Value) : put f key val key = some val := if_pos rfl
theorem put_ne (f : Value → Option Value) {key v : Value} (val : Value) (h : v ≠ key) : put f key val v = f v := if_neg h
section
variable {P : Program} {k t e : TypeId} {w w2 : World} {b n r cnt : Nat} {f : Value → Option Value} {D : DataW Value}
theorem MapV.lt (h : MapV P k w b n f) : b < w.heap.size := by
  obtain ⟨D, h1, _⟩ := h
  exact h1.lt
theorem MapV.of_block (h : MapV P k w b n f) (hb : w2.heap[b]? = w.heap[b]?) : MapV P k w2 b n f := by
  obtain ⟨D, ⟨es, c, h1, r⟩, s⟩ := h
  exact ⟨D, ⟨es, c, hb.trans h1, r⟩, s⟩
theorem MapV.kept (h : MapV P k w b n f) (hk : kit.Kept w w2) : MapV P k w2 b n f := h.of_block (hk.block b h.lt)
theorem MapV.grown (h : MapV P k w b n f) {r : Option Nat} (hg : w.grownBy w2 r) (hr : some b ≠ r) : MapV P k w2 b n f := h.of_block (hg.block b h.lt hr)
theorem MapV.setCell (h : MapV P k w b n f) {a : Addr} (ha : b ≠ a.block) (u : Value) : MapV P k (w.setCell a u) b n f := by
  obtain ⟨D, h1, s⟩ := h
  exact ⟨D, h1.setCell ha u, s⟩
theorem MapV.made (P : Program) (k : TypeId) (w : World) : MapV P k (w.alloc (.map #[] 0)) w.heap.size 0 (fun _ => none) :=
  ⟨.map [], World.ownsMap_made w P k HV, rfl, fun _ _ => rfl, fun key kl _ => ⟨fun _ z => rfl, fun x h => by cases h⟩⟩
theorem Rep.has (h : Rep P k D f) {key : Value} {kl : Lit} (hk : keyOf P k key = some kl) : Maps.has D kl = (f key).isSome := by
  obtain ⟨h1, h2⟩ := h.2 key kl hk
  rcases hx : f key with _ | x
  · exact Maps.has_false_of_atKey (h1 hx)
  · exact Maps.has_true_of_atKey (h2 x hx)
theorem MapV.dom (h : MapV P k w b n f) {key : Value} (hx : (f key).isSome = true) : ∃ kl, keyOf P k key = some kl := by
  obtain ⟨D, _, _, h1, _⟩ := h
  rcases hk : keyOf P k key with _ | kl
  · rw [h1 key hk] at hx; cases hx
  · exact ⟨kl, rfl⟩
theorem MapV.look (h : MapV P k w b n f) (K : Keyed P k) (ht : P.underlying t = some (.map k e)) {z : Value} (hz : (zeroValue e).run P w = .ok z w) {key : Value} {kl : Lit} (hkey : keyOf P k key = some kl) (c : Bool) :
    (Instr.lookup t (.map (some b)) key c).run P w = .ok (if c then .tuple #[(f key).getD z, .bool (f key).isSome] else (f key).getD z) w := by
  obtain ⟨D, h1, _, hR⟩ := h
  have hh := hR.has hkey
  obtain ⟨_, hR⟩ := hR
  obtain ⟨r1, r2⟩ := hR key kl hkey
  have hval : ∀ v ps, HV v = some (D.atKey kl (.held z), ps) → v = (f key).getD z := fun v ps hv => by
    unfold HV at hv
    simp only [Option.some.injEq, Prod.mk.injEq] at hv
    rcases hx : f key with _ | x
    · rw [r1 hx] at hv
      injection hv.1
    · rw [r2 x hx] at hv
      injection hv.1
  rcases c with _ | _
  · obtain ⟨v, ps, g1, g2⟩ := h1.lookup K ht hz (zd := .held z) (zp := []) rfl hkey
    rw [g1, hval v ps g2]
    rfl
  · obtain ⟨v, ps, g1, g2⟩ := h1.look_ok K ht hz (zd := .held z) (zp := []) rfl hkey
    rw [g1, hval v ps g2, hh]
    rfl
theorem MapV.len (h : MapV P k w b n f) (ht : P.underlying t = some (.map k e)) (ty : TypeId) : (Builtin.len_ #[t] ty #[.map (some b)]).run P w = .ok (.int .i64 n) w := by
  obtain ⟨D, h1, h2, _⟩ := h
  rw [h1.len ht ty, h2]
theorem MapV.store (h : MapV P k w b n f) (K : Keyed P k) (ht : P.underlying t = some (.map k e)) (hn : n < maxLen) {key : Value} {kl : Lit} (hkey : keyOf P k key = some kl) (val : Value) :
    ∃ o : Obj, (Instr.mapUpdate t (.map (some b)) key val).run P w = .ok () (setBlock w b o) ∧ MapV P k (setBlock w b o) b (if (f key).isSome = true then n else n + 1) (put f key val) := by
  obtain ⟨D, h1, h2, hR⟩ := h
  have hh := hR.has hkey
  obtain ⟨hdom, hR⟩ := hR
  obtain ⟨w', g1, g2, es, clock, es2, clock2, g3, rfl⟩ := h1.store K ht hn (val := val) (d := .held val) (ps := []) hkey rfl
  have hs : Maps.size (D.put kl (.held val)) = if (f key).isSome = true then n else n + 1 := by rw [Maps.size_put (h1.tidy K), hh, h2]
  have hle : ∀ m, Maps.size (D.put kl (.held val)) = m → (setBlock w b (.map es2 clock2)).ownsMap P k HV b m (D.put kl (.held val)) := fun m hm => by
    obtain ⟨es3, c3, q1, q2, q3, q4⟩ := g2
    refine ⟨es3, c3, q1, q2, ?_, q4⟩
    rw [← hm, q4]
    simp [Maps.size, length_sorted]
  refine ⟨_, g1, _, hle _ hs, hs, fun key2 h0 => ?_, fun key2 kl2 hk2 => ?_⟩
  · rw [put_ne _ _ (fun e => by rw [e, hkey] at h0; cases h0)]
    exact hdom key2 h0
  · by_cases ek : key2 = key
    · subst ek
      rw [hkey] at hk2
      cases hk2
      rw [put_same]
      refine ⟨(fun q => by cases q), (fun x hx z => ?_)⟩
      injection hx with hx
      rw [← hx]
      exact Maps.atKey_put_same h1.isMap (K.key hkey) _ z
    · rw [put_ne _ _ ek]
      have hne : kl2 ≠ kl := fun e => ek (K.inj hk2 (by rw [e]; exact hkey))
      obtain ⟨r1, r2⟩ := hR key2 kl2 hk2
      exact ⟨fun q z => by rw [Maps.atKey_put_other hne, r1 q z], fun x q z => by rw [Maps.atKey_put_other hne, r2 x q z]⟩
/-- m[k] = v at the operation -/
theorem wpList_put {ops : Array Oper} {rest : List Oper} {o : Oper} {a : Act} {Q : Exit → Act → World → Prop} (hg : o.guard = none) (m x v : Operand) (t : TypeId) (hop : o.op = Op.mapUpdate t m x v) (K : Keyed P k) (ht : P.underlying t = some (.map k e))
    (b n : Nat) (f : Value → Option Value) (hm : a.eval m = .map (some b)) (h : MapV P k w b n f) (hn : n < maxLen) (key : Value) (kl : Lit) (hx : a.eval x = key) (hkey : keyOf P k key = some kl) (val : Value) (hv : a.eval v = val)
    (hK : ∀ w' : World, (∃ ob, w' = setBlock w b ob) → MapV P k w' b (if (f key).isSome = true then n else n + 1) (put f key val) → wpList P ops Q rest (a.put o.dst undef) w') : wpList P ops Q (o :: rest) a w := by
  refine wpList_plain hg fun K' hK' => ?_
  obtain ⟨ob, hrun, hown⟩ := h.store K ht hn hkey val
  unfold Oper.wp
  simp [execOp, hop, hm, hx, hv, hrun, Result.andThen]
  exact hK' _ _ (hK _ ⟨ob, rfl⟩ hown)
/-- m[k] at the operation -/
theorem wpList_look {ops : Array Oper} {rest : List Oper} {o : Oper} {a : Act} {Q : Exit → Act → World → Prop} (hg : o.guard = none) (m x : Operand) (t : TypeId) (c : Bool) (hop : o.op = Op.lookup t m x c) (K : Keyed P k) (ht : P.underlying t = some (.map k e))
    {z : Value} (hz : (zeroValue e).run P w = .ok z w) (b n : Nat) (f : Value → Option Value) (hm : a.eval m = .map (some b)) (h : MapV P k w b n f) (key : Value) (kl : Lit) (hx : a.eval x = key) (hkey : keyOf P k key = some kl) (r : Option Value) (hr : f key = r)
    (hK : wpList P ops Q rest (a.put o.dst (if c then .tuple #[r.getD z, .bool r.isSome] else r.getD z)) w) : wpList P ops Q (o :: rest) a w := by
  refine wpList_plain hg fun K' hK' => ?_
  have hrun := h.look K ht hz hkey c
  unfold Oper.wp
  simp [execOp, hop, hm, hx, hrun, Result.andThen]
  rw [hr]
  exact hK' _ _ hK

/-! ### range -/
/-- 'for k, v := range m' under way: block r walks over the map in block b; L: the keys that are still to come, cnt of them -/
def MapR (P : Program) (k : TypeId) (w : World) (b r n : Nat) (f : Value → Option Value) (L : Value → Prop) (cnt : Nat) : Prop :=
  ∃ (D : DataW Value) (left : Lit → Bool), w.ranges P k HV b r n D left cnt ∧ Maps.size D = n ∧ Rep P k D f ∧ (∀ key kl, keyOf P k key = some kl → (L key ↔ left kl = true)) ∧ ∀ key, L key → ∃ kl, keyOf P k key = some kl
variable {L : Value → Prop}
theorem MapR.owns (h : MapR P k w b r n f L cnt) : MapV P k w b n f := by
  obtain ⟨D, left, h1, h2, h3, _⟩ := h
  exact ⟨D, h1.owns, h2, h3⟩
theorem MapR.left_eq (h : MapR P k w b r n f L cnt) : w.rangeLeft b r = cnt := by
  obtain ⟨D, left, h1, _⟩ := h
  exact h1.left_eq
theorem MapR.lt (h : MapR P k w b r n f L cnt) : r < w.heap.size := by
  obtain ⟨D, left, h1, _⟩ := h
  exact h1.lt
theorem MapR.ne (h : MapR P k w b r n f L cnt) : r ≠ b := by
  obtain ⟨D, left, h1, _⟩ := h
  exact h1.ne
theorem MapR.of_blocks (h : MapR P k w b r n f L cnt) (hb : w2.heap[b]? = w.heap[b]?) (hr : w2.heap[r]? = w.heap[r]?) : MapR P k w2 b r n f L cnt := by
  obtain ⟨D, left, ⟨es, clock, since, seen, c0, q1, q2, q3, q4, q5, q6⟩, s⟩ := h
  exact ⟨D, left, ⟨es, clock, since, seen, c0, hb.trans q1, q2, q3, q4, hr.trans q5, q6⟩, s⟩
theorem MapR.kept (h : MapR P k w b r n f L cnt) (hk : kit.Kept w w2) : MapR P k w2 b r n f L cnt := h.of_blocks (hk.block b h.owns.lt) (hk.block r h.lt)
/-- range m at the operation -/
theorem wpList_range_map {ops : Array Oper} {rest : List Oper} {o : Oper} {a : Act} {Q : Exit → Act → World → Prop} (hg : o.guard = none) (m : Operand) (t : TypeId) (hop : o.op = Op.range t m) (K : Keyed P k) (ht : P.underlying t = some (.map k e))
    (b n : Nat) (f : Value → Option Value) (hm : a.eval m = .map (some b)) (h : MapV P k w b n f)
    (hK : ∀ w', MapR P k w' b w.heap.size n f (fun key => (f key).isSome = true) n → kit.Kept w w' → w'.heap.size = w.heap.size + 1 → wpList P ops Q rest (a.put o.dst (.pointer (some ⟨w.heap.size, 0, none⟩))) w') : wpList P ops Q (o :: rest) a w := by
  obtain ⟨D, h1, h2, h3⟩ := h
  refine wpList_range_own w hg m t hop k e K ht HV b n D hm h1 fun w' hrg hgr hsz => ?_
  rw [h2] at hrg
  exact hK w' ⟨D, _, hrg, h2, h3, fun key kl hk => by show _ ↔ Maps.has D kl = true; rw [h3.has hk], fun key hx => by
    rcases hk : keyOf P k key with _ | kl
    · have hx : (f key).isSome = true := hx
      rw [h3.1 key hk] at hx
      cases hx
    · exact ⟨kl, rfl⟩⟩ ⟨hgr.os, hgr.tape, hgr.output, hgr.size, fun i hi => hgr.block i hi (by simp)⟩ hsz
/-- the step -/
theorem wpList_next_map {α β : Type} {ops : Array Oper} {rest : List Oper} {o : Oper} {a : Act} {Q : Exit → Act → World → Prop} (hg : o.guard = none) (it : Operand) (hop : o.op = Op.next it false) (K : Keyed P k)
    (b r n : Nat) (f : Value → Option Value) (L : Value → Prop) (cnt : Nat) (mkK : α → Value) (mkV : β → Value) (inv : ∀ key v, f key = some v → ∃ x c, key = mkK x ∧ v = mkV c)
    (hit : a.eval it = .pointer (some ⟨r, 0, none⟩)) (h : MapR P k w b r n f L cnt)
    (hDone : cnt = 0 → (∀ key, ¬ L key) → wpList P ops Q rest (a.put o.dst (.tuple #[.bool false])) w)
    (hMore : ∀ (x : α) (c : β) (w' : World) (cnt' : Nat), f (mkK x) = some (mkV c) → L (mkK x) → MapR P k w' b r n f (fun key => L key ∧ key ≠ mkK x) cnt' → cnt' < cnt →
      w.grownBy w' (some r) → w'.heap.size = w.heap.size → (Instr.entry (.pointer (some ⟨r, 0, none⟩))).run P w' = .ok (.tuple #[mkK x, mkV c]) w' → wpList P ops Q rest (a.put o.dst (.tuple #[.bool true, mkK x, mkV c])) w') :
    wpList P ops Q (o :: rest) a w := by
  obtain ⟨D, left, h1, h2, h3, h4, h5⟩ := h
  refine wpList_plain hg fun K' hK' => ?_
  unfold Oper.wp
  rcases h1.next K o.type with ⟨h0, hl, hrun⟩ | ⟨key, v, kl, y, w', cnt', hkey, hlk, hv, hat, hrun, hrg, hlt, hgr, hsz, hen⟩
  · simp [execOp, hop, hit, hrun, Result.andThen]
    refine hK' _ _ (hDone h0 fun key hL => ?_)
    obtain ⟨kl, hk⟩ := h5 key hL
    have := (h4 key kl hk).1 hL
    rw [hl] at this
    cases this
  · have hf : f key = some v := by
      obtain ⟨r1, r2⟩ := h3.2 key kl hkey
      unfold HV at hv
      simp only [Option.some.injEq] at hv
      rcases hx : f key with _ | x
      · have q1 := (r1 hx .nil).symm.trans (hat .nil)
        rw [← hv] at q1
        cases q1
      · have q1 := (r2 x hx .nil).symm.trans (hat .nil)
        rw [← hv] at q1
        injection q1 with q1
        rw [q1]
    obtain ⟨x, c, rfl, rfl⟩ := inv key v hf
    simp [execOp, hop, hit, hrun, Result.andThen]
    refine hK' _ _ (hMore x c w' cnt' hf ((h4 _ kl hkey).2 hlk) ⟨D, _, hrg, h2, h3, fun key2 kl2 hk2 => ?_, fun key2 hL => h5 key2 hL.1⟩ hlt hgr hsz hen)
    show (L key2 ∧ key2 ≠ mkK x) ↔ _
    rw [h4 key2 kl2 hk2]
    simp only [Bool.and_eq_true, Bool.not_eq_true', ← Bool.not_eq_true, and_congr_right_iff]
    intro _
    rw [WideAt.sameKey_iff (K.key hkey)]
    constructor
    · intro q e
      exact q (K.inj hk2 (by rw [e]; exact hkey))
    · intro q e
      subst e
      rw [hkey] at hk2
      cases hk2
      exact q rfl
end
end Go.Proofs.Ytknmcbhcbomjmaa.mapv
