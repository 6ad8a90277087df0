/-
  Two runs side by side: append, rows, operators, calls, communications, and the world with another tape.
  Conditions: none beyond those that each theorem names.
-/
import Derived.Test.YtgjhmbbbkkidlaaGreatDoorJa
/-
  Two runs side by side: append.
  Conditions: none; no program in sight.
-/
namespace Go.Proofs.YtgjhmbbbkkidlaaGreatDoor.sim
open Go
section
variable {P : Program} {α β γ δ : Type} {RR : Rn → α → β → Prop} {SS : Rn → γ → δ → Prop} {ρ : Rn}
theorem Calm.bind {α β : Type} {f : α → Sem β} (h : ∀ a, Calm (f a)) : ∀ (x : Sem α), Calm x → Calm (x.bind f) := by
  intro x
  induction x with
  | pure a => intro _; exact h a
  | load m a k ih => intro h; exact h.elim
  | store m a v k ih => intro h; exact h.elim
  | new o k ih => intro h; exact h.elim
  | shape r k ih => intro c s; exact ih s (c s)
  | freeze a n k ih => intro h; exact h.elim
  | frozen a k ih => intro c s; exact ih s (c s)
  | getObj r k ih => intro h; exact h.elim
  | setObj r o k ih => intro h; exact h.elim
  | choose q k ih => intro c s; exact ih s (c s)
  | sys c k ih => intro h; exact h.elim
  | program k ih => intro c s; exact ih s (c s)
  | mark m k ih => intro c; exact ih c
  | halt e => intro c; exact c
theorem share_calm (size sLen n : Nat) (base : Option Addr) (y : Value) : Calm (Builtin.mayShare size sLen n base y) := by
  have hc : ∀ (a : Addr) (c : Nat), Calm (Builtin.holdsCells a c) := fun a c s => by
    cases s <;> exact True.intro
  have last : Calm (match y with
      | .slice (some b) _ _ => (Builtin.holdsCells b (n * size) >>= fun h => (pure (!h || base.any (·.block == b.block)) : Sem Bool))
      | _ => pure false) := by
    cases y with
    | slice b l c => cases b with
      | none => exact True.intro
      | some b =>
        refine Calm.bind (fun a => ?_) _ (hc _ _)
        exact True.intro
    | _ => exact True.intro
  unfold Builtin.mayShare
  cases base with
  | none => exact last
  | some a =>
    refine Calm.bind (fun b1 => ?_) _ (hc _ _)
    intro b2
    cases b1 <;> cases b2 <;> first | exact last | exact True.intro
theorem share_dead {ε : Type} (size sLen n : Nat) (base : Option Addr) (y : Value) (u u' : Unsupported) (hu : Ord (.unsupported u)) (hu' : Ord (.unsupported u')) (f : ε → Sem α) {z : Sem β} :
    TR P RR ρ ((Builtin.mayShare size sLen n base y >>= fun b => if (!b) = true then (mark .noRoom >>= fun _ => (Go.unsupported u : Sem ε)) else (Go.unsupported u' : Sem ε)) >>= f) z := by
  have dead : Dead ((Builtin.mayShare size sLen n base y >>= fun b => if (!b) = true then (mark .noRoom >>= fun _ => (Go.unsupported u : Sem ε)) else (Go.unsupported u' : Sem ε)) >>= f) :=
    Dead.bind _ _ (Dead.behind (fun b => by cases b <;> first | exact hu | exact hu') _ (share_calm _ _ _ _ _))
  cases base with
  | some a => exact Or.inl dead
  | none =>
    cases y with
    | slice b l c => cases b with
      | none => exact Or.inl hu
      | some b => exact Or.inl dead
    | _ => exact Or.inl hu
/-- the type is not an integer's: the second argument of append is no length -/
def NoInt (P : Program) (o : Option TypeId) : Prop := ∀ t k, o = some t → P.underlying t ≠ some (.int k)
set_option maxHeartbeats 4000000 in
theorem TR.appendI (ts : Array TypeId) (hz : ∀ t, ts[0]? = some t → Zsl P t) (hn : NoInt P ts[1]?) (ty : TypeId) {xs xs' : Array Value} (hs : ArR ρ xs xs') : TR P VR ρ (Builtin.append_ ts ty xs) (Builtin.append_ ts ty xs') := by
  unfold Builtin.append_
  cases et : ts[0]? with
  | none => cases xs[0]? <;> cases xs[1]? <;> exact True.intro
  | some t =>
  cases e1 : xs[0]? with
  | none => cases xs[1]? <;> exact True.intro
  | some x =>
  obtain ⟨x', e2, h⟩ := hs.get e1
  cases e3 : xs[1]? with
  | none => exact True.intro
  | some y =>
  obtain ⟨y', e4, g⟩ := hs.get e3
  rw [e2, e4]
  dsimp only
  refine TR.und t fun ρ1 d l1 e => ?_
  have h1 := h.mono l1
  have g1 := g.mono l1
  cases d <;> first | exact True.intro | skip
  rename_i elem
  have row : ∀ {ρ2 : Rn} (size sLen sCap n : Nat), (∀ a l c, x = .slice a l c → sLen ≤ l) → (∀ a l c, y = .slice a l c → n ≤ l) → VR ρ2 x x' → VR ρ2 y y' → TR P VR ρ2
      (do
        let newCap ← choose (.appendCap (sLen + n) sCap elem)
        let i ← typeInfo elem
        askRoom (newCap * i.bytes)
        let old ← Builtin.firstCells size sLen x
        let new ← Builtin.firstCells size n y
        let z ← zeroValue elem
        let a ← Go.newRow elem (old ++ new ++ Builtin.zeroCells z.cells (newCap - (sLen + n)))
        pure (Value.slice (some a) (sLen + n) newCap))
      (do
        let newCap ← choose (.appendCap (sLen + n) sCap elem)
        let i ← typeInfo elem
        askRoom (newCap * i.bytes)
        let old ← Builtin.firstCells size sLen x'
        let new ← Builtin.firstCells size n y'
        let z ← zeroValue elem
        let a ← Go.newRow elem (old ++ new ++ Builtin.zeroCells z.cells (newCap - (sLen + n)))
        pure (Value.slice (some a) (sLen + n) newCap)) := by
    intro ρ2 size sLen sCap n kx ky hx hy
    refine ⟨_, rfl, fun ρ3 nc l3 => ?_⟩
    refine TR.info elem fun ρ4 i l4 _ => TR.room _ fun ρ5 l5 => ?_
    have l5' := (l3.trans l4).trans l5
    refine TR.b (TR.firstCells (hx.mono l5') _ _ kx) fun ρ6 o o' l6 ro => ?_
    refine TR.b (TR.firstCells (hy.mono (l5'.trans l6)) _ _ ky) fun ρ7 c c' l7 rc => ?_
    refine TR.zero elem (hz t et elem e) fun ρ8 z l8 rz => ?_
    refine TR.b (TR.newRow elem ((((ro.1.mono l7).append rc.1).mono l8).append (ArR.zeroCells (rz ρ8).cells _))) fun ρ9 a a' l9 ra => ?_
    exact TR.ret (.slice _ _ fun _ => ra.1)
  have hx := h1
  cases h1 with
  | nilSlice l c =>
    refine TR.size _ fun ρ2 size l2 => ?_
    cases e5 : ts[1]? with
    | none =>
      simp only [pb, Bool.false_eq_true, if_false, Bool.not_false, if_true, false_or]
      have gx := hx.mono l2
      have gy := g1.mono l2
      have lr := l2
      refine TR.lenOf gy fun n hn => ?_
      split
      · refine TR.b (TR.firstCells gy _ _ fun a l c e => Nat.le_of_eq (hn a l c e)) fun ρ4 q q' l4 rc => ?_
        first
          | exact TR.ret (.nilSlice _ _)
          | exact TR.b (TR.storeCells0 _ _ 0 (fun hne => AdR.add (AdR.mono (Rn.le.trans lr l4) (r (Nat.pos_of_ne_zero fun z => hne (by rw [rc.2 (by omega)])))) _) (ArR.list rc.1)) fun ρ5 _ _ l5 _ => TR.ret (.slice _ _ fun hp => AdR.mono (Rn.le.trans (Rn.le.trans lr l4) l5) (r (by omega)))
      · refine TR.info elem fun ρ4 i l4 _ => ?_
        split
        · exact TR.panicb (e := .error _) trivial _ _
        · refine TR.info elem fun ρ5 i5 l5 _ => ?_
          split
          · refine share_dead _ _ _ _ _ _ _ ?_ ?_ _ <;> exact True.intro
          · exact row _ _ _ _ (fun a l c e => by cases e; exact Nat.le_refl _) (fun a l c e => Nat.le_of_eq (hn a l c e)) (VR.mono (Rn.le.trans l4 l5) gx) (VR.mono (Rn.le.trans l4 l5) gy)
    | some xt =>
      refine TR.und xt fun ρ3 d3 l3 e6 => ?_
      have gx := hx.mono (l2.trans l3)
      have gy := g1.mono (l2.trans l3)
      have lr := l2.trans l3
      cases d3 <;> first
        | exact (hn xt _ e5 e6).elim
        | (simp only [pb, Bool.false_eq_true, if_false, Bool.not_false, if_true, false_or]
           refine TR.lenOf gy fun n hn => ?_
           split
           · refine TR.b (TR.firstCells gy _ _ fun a l c e => Nat.le_of_eq (hn a l c e)) fun ρ4 q q' l4 rc => ?_
             first
               | exact TR.ret (.nilSlice _ _)
               | exact TR.b (TR.storeCells0 _ _ 0 (fun hne => AdR.add (AdR.mono (Rn.le.trans lr l4) (r (Nat.pos_of_ne_zero fun z => hne (by rw [rc.2 (by omega)])))) _) (ArR.list rc.1)) fun ρ5 _ _ l5 _ => TR.ret (.slice _ _ fun hp => AdR.mono (Rn.le.trans (Rn.le.trans lr l4) l5) (r (by omega)))
           · refine TR.info elem fun ρ4 i l4 _ => ?_
             split
             · exact TR.panicb (e := .error _) trivial _ _
             · refine TR.info elem fun ρ5 i5 l5 _ => ?_
               split
               · refine share_dead _ _ _ _ _ _ _ ?_ ?_ _ <;> exact True.intro
               · exact row _ _ _ _ (fun a l c e => by cases e; exact Nat.le_refl _) (fun a l c e => Nat.le_of_eq (hn a l c e)) (VR.mono (Rn.le.trans l4 l5) gx) (VR.mono (Rn.le.trans l4 l5) gy))
  | slice l c r =>
    refine TR.size _ fun ρ2 size l2 => ?_
    cases e5 : ts[1]? with
    | none =>
      simp only [pb, Bool.false_eq_true, if_false, Bool.not_false, if_true, false_or]
      have gx := hx.mono l2
      have gy := g1.mono l2
      have lr := l2
      refine TR.lenOf gy fun n hn => ?_
      split
      · refine TR.b (TR.firstCells gy _ _ fun a l c e => Nat.le_of_eq (hn a l c e)) fun ρ4 q q' l4 rc => ?_
        first
          | exact TR.ret (.nilSlice _ _)
          | exact TR.b (TR.storeCells0 _ _ 0 (fun hne => AdR.add (AdR.mono (Rn.le.trans lr l4) (r (Nat.pos_of_ne_zero fun z => hne (by rw [rc.2 (by omega)])))) _) (ArR.list rc.1)) fun ρ5 _ _ l5 _ => TR.ret (.slice _ _ fun hp => AdR.mono (Rn.le.trans (Rn.le.trans lr l4) l5) (r (by omega)))
      · refine TR.info elem fun ρ4 i l4 _ => ?_
        split
        · exact TR.panicb (e := .error _) trivial _ _
        · refine TR.info elem fun ρ5 i5 l5 _ => ?_
          split
          · refine share_dead _ _ _ _ _ _ _ ?_ ?_ _ <;> exact True.intro
          · exact row _ _ _ _ (fun a l c e => by cases e; exact Nat.le_refl _) (fun a l c e => Nat.le_of_eq (hn a l c e)) (VR.mono (Rn.le.trans l4 l5) gx) (VR.mono (Rn.le.trans l4 l5) gy)
    | some xt =>
      refine TR.und xt fun ρ3 d3 l3 e6 => ?_
      have gx := hx.mono (l2.trans l3)
      have gy := g1.mono (l2.trans l3)
      have lr := l2.trans l3
      cases d3 <;> first
        | exact (hn xt _ e5 e6).elim
        | (simp only [pb, Bool.false_eq_true, if_false, Bool.not_false, if_true, false_or]
           refine TR.lenOf gy fun n hn => ?_
           split
           · refine TR.b (TR.firstCells gy _ _ fun a l c e => Nat.le_of_eq (hn a l c e)) fun ρ4 q q' l4 rc => ?_
             first
               | exact TR.ret (.nilSlice _ _)
               | exact TR.b (TR.storeCells0 _ _ 0 (fun hne => AdR.add (AdR.mono (Rn.le.trans lr l4) (r (Nat.pos_of_ne_zero fun z => hne (by rw [rc.2 (by omega)])))) _) (ArR.list rc.1)) fun ρ5 _ _ l5 _ => TR.ret (.slice _ _ fun hp => AdR.mono (Rn.le.trans (Rn.le.trans lr l4) l5) (r (by omega)))
           · refine TR.info elem fun ρ4 i l4 _ => ?_
             split
             · exact TR.panicb (e := .error _) trivial _ _
             · refine TR.info elem fun ρ5 i5 l5 _ => ?_
               split
               · refine share_dead _ _ _ _ _ _ _ ?_ ?_ _ <;> exact True.intro
               · exact row _ _ _ _ (fun a l c e => by cases e; exact Nat.le_refl _) (fun a l c e => Nat.le_of_eq (hn a l c e)) (VR.mono (Rn.le.trans l4 l5) gx) (VR.mono (Rn.le.trans l4 l5) gy))
  | _ => exact True.intro
end
end Go.Proofs.YtgjhmbbbkkidlaaGreatDoor.sim
/-
  Two runs side by side: rows, conversions, arithmetic.
  Conditions: none; no program in sight.
-/
namespace Go.Proofs.YtgjhmbbbkkidlaaGreatDoor.sim
open Go
section
variable {P : Program} {α β γ δ : Type} {RR : Rn → α → β → Prop} {SS : Rn → γ → δ → Prop} {ρ : Rn}
theorem TR.size' (t : TypeId) {f : Nat → Sem γ} {g : Nat → Sem δ} (k : ∀ ρ' i, Rn.le ρ ρ' → P.info? t = some i → TR P SS ρ' (f i.size) (g i.size)) : TR P SS ρ (sizeOf t >>= f) (sizeOf t >>= g) := by
  refine TR.b (RR := fun _ a b => a = b ∧ ∃ i, P.info? t = some i ∧ i.size = a) ?_ fun ρ' a b l e => by obtain ⟨rfl, i, e1, rfl⟩ := e; exact k ρ' i l e1
  exact TR.info t fun ρ' d l e => TR.ret ⟨rfl, d, e, rfl⟩
theorem TR.zero' (t : TypeId) {f : Value → Sem γ} {g : Value → Sem δ} (k : ∀ ρ' i z, Rn.le ρ ρ' → P.info? t = some i → i.zero = some z → TR P SS ρ' (f z) (g z)) : TR P SS ρ (zeroValue t >>= f) (zeroValue t >>= g) := by
  refine TR.b (RR := fun _ a b => a = b ∧ ∃ i, P.info? t = some i ∧ i.zero = some a) ?_ fun ρ' a b l e => by obtain ⟨rfl, i, e1, e2⟩ := e; exact k ρ' i _ l e1 e2
  refine TR.info t fun ρ' d l e => ?_
  cases e2 : d.zero with
  | none => exact True.intro
  | some z => exact TR.ret ⟨rfl, d, e, e2⟩
theorem TR.makeSliceI (t : TypeId) (hz : Zsl P t) {x x' y y' : Value} (h : VR ρ x x') (g : VR ρ y y') : TR P VR ρ (Instr.makeSlice t x y) (Instr.makeSlice t x' y') := by
  refine TR.und t fun ρ1 d l1 e => ?_
  cases d <;> first | exact True.intro | skip
  rename_i elem
  refine TR.int (h.mono l1) fun ρ2 len l2 => TR.int ((g.mono l1).mono l2) fun ρ3 cap l3 => TR.info elem fun ρ4 i l4 ei => ?_
  have row : ∀ {ρ : Rn}, TR P VR ρ
      (askRoom ((IntKind.i64.wrap cap).toNat * i.bytes) >>= fun _ => (sizeOf elem >>= fun s => if (IntKind.i64.wrap cap).toNat * s = 0 then
          (pure #[] >>= fun zero => Go.newRow elem ((Array.range ((IntKind.i64.wrap cap).toNat * s)).map (fun i => zero[i % zero.size]!)) >>= fun a => pure (Value.slice (some a) (IntKind.i64.wrap len).toNat (IntKind.i64.wrap cap).toNat))
        else zeroValue elem >>= fun z => Go.newRow elem ((Array.range ((IntKind.i64.wrap cap).toNat * s)).map (fun i => z.cells[i % z.cells.size]!)) >>= fun a => pure (Value.slice (some a) (IntKind.i64.wrap len).toNat (IntKind.i64.wrap cap).toNat)))
      (askRoom ((IntKind.i64.wrap cap).toNat * i.bytes) >>= fun _ => (sizeOf elem >>= fun s => if (IntKind.i64.wrap cap).toNat * s = 0 then
          (pure #[] >>= fun zero => Go.newRow elem ((Array.range ((IntKind.i64.wrap cap).toNat * s)).map (fun i => zero[i % zero.size]!)) >>= fun a => pure (Value.slice (some a) (IntKind.i64.wrap len).toNat (IntKind.i64.wrap cap).toNat))
        else zeroValue elem >>= fun z => Go.newRow elem ((Array.range ((IntKind.i64.wrap cap).toNat * s)).map (fun i => z.cells[i % z.cells.size]!)) >>= fun a => pure (Value.slice (some a) (IntKind.i64.wrap len).toNat (IntKind.i64.wrap cap).toNat))) := by
    intro ρ
    refine TR.room _ fun ρ5 l5 => ?_
    refine TR.size' elem fun ρ6 i2 l6 ei2 => ?_
    split
    · rename_i e0
      simp only [pb, e0]
      exact TR.b (TR.newRow elem ⟨rfl, fun i v v' h => by simp at h⟩) fun ρ7 a a' l7 r => TR.ret (.slice _ _ fun _ => r.1)
    · rename_i e0
      refine TR.zero' elem fun ρ7 i3 z l7 ei3 e2 => ?_
      rw [ei2] at ei3
      cases ei3
      have hp : 0 < z.cells.size := (hz elem e i2 z ei2 e2).2 (Nat.pos_of_ne_zero fun q => e0 (by rw [q, Nat.mul_zero]))
      exact TR.b (TR.newRow elem (((hz elem e i2 z ei2 e2).1 ρ7).cells.zeros hp _)) fun ρ7 a a' l7 r => TR.ret (.slice _ _ fun _ => r.1)
  dsimp only
  split
  · split
    · exact TR.panicb (e := .error _) trivial _ _
    · split
      · exact TR.panicb (e := .error _) trivial _ _
      · exact ⟨_, rfl, fun ρ5 n l5 => TR.panicb (e := .error _) trivial _ _⟩
  · exact row
theorem TR.convI (s d : TypeId) {x x' : Value} (h : VR ρ x x') (hd : ∃ k, P.underlying d = some (.int k)) (hs : ∃ k, P.underlying s = some (.int k)) : TR P VR ρ (convert s d x) (convert s d x') := by
  obtain ⟨kd, ed⟩ := hd
  obtain ⟨ks, es⟩ := hs
  refine TR.und s fun ρ1 d1 l1 e1 => TR.und d fun ρ2 d2 l2 e2 => ?_
  rw [es] at e1
  rw [ed] at e2
  cases e1
  cases e2
  cases h <;> first | exact True.intro | exact TR.ret (.int _ _) | skip
  · rename_i k b
    show TR P VR ρ2 (Conv.floatToInt k b kd) (Conv.floatToInt k b kd)
    unfold Conv.floatToInt
    have any : TR P VR ρ2 (do pure (Value.int kd (kd.wrap (← choose (.floatToInt k b kd))))) (do pure (Value.int kd (kd.wrap (← choose (.floatToInt k b kd))))) :=
      ⟨_, rfl, fun ρ4 n l4 => TR.ret (.int _ _)⟩
    dsimp only
    split
    · split
      · exact TR.ret (.int _ _)
      · exact any
    · exact any
/-- text to bytes -/
theorem TR.bytesI (s d e : TypeId) {x x' : Value} (h : VR ρ x x') (hd : P.underlying d = some (.slice e)) (he : P.underlying e = some (.int .u8)) (hs : P.underlying s = some .string) : TR P VR ρ (convert s d x) (convert s d x') := by
  refine TR.und s fun ρ1 d1 l1 e1 => TR.und d fun ρ2 d2 l2 e2 => ?_
  rw [hs] at e1
  rw [hd] at e2
  cases e1
  cases e2
  cases h <;> first | exact True.intro | skip
  refine TR.und e fun ρ3 d3 l3 e3 => ?_
  rw [he] at e3
  cases e3
  refine ⟨_, rfl, fun ρ4 n l4 => ?_⟩
  rename_i str
  have hr : ArR ρ4 ((str.data.map fun b => Value.int .u8 b.toNat) ++ Array.replicate (n - str.size) (.int .u8 0)) ((str.data.map fun b => Value.int .u8 b.toNat) ++ Array.replicate (n - str.size) (.int .u8 0)) := by
    refine ArR.append (ArR.self fun v hv => ?_) (ArR.rep _ (.int _ _) _)
    obtain ⟨b, _, rfl⟩ := Array.mem_map.1 hv
    exact .int _ _
  show TR P VR ρ4 (Go.newRow e _ >>= _) (Go.newRow e _ >>= _)
  refine TR.b (TR.newRow e hr) fun ρ5 a a' l5 r => ?_
  refine TR.b (RR := fun _ _ _ => True) (x := markStringish a) (y := markStringish a') (.inr ⟨_, _, rfl, r.1.1, fun ρ6 t n n' l6 hle ho => ?_, fun _ _ => TR.ret trivial⟩) fun ρ6 _ _ l6 _ => TR.ret (.slice _ _ fun _ => r.1.mono l6)
  exact ⟨_, _, rfl, ⟨l6.1 _ _ r.1.1, ho (l6.2.1 _ r.2), rfl⟩, l6.2.1 _ r.2, fun _ _ => TR.ret trivial⟩
/-- a list of places and values -/
inductive PaR (ρ : Rn) : List (Nat × Value) → List (Nat × Value) → Prop
  | nil : PaR ρ [] []
  | cons (i : Nat) {v v' : Value} {l l' : List (Nat × Value)} : VR ρ v v' → PaR ρ l l' → PaR ρ ((i, v) :: l) ((i, v') :: l')
theorem PaR.mono {ρ ρ' : Rn} (h : Rn.le ρ ρ') {l l' : List (Nat × Value)} (g : PaR ρ l l') : PaR ρ' l l' := by
  induction g with
  | nil => exact .nil
  | cons i a _ ih => exact .cons i (a.mono h) ih
theorem PaR.of {ev ev' : Operand → Value} : ∀ (l : List (Nat × Operand)), (∀ p ∈ l, VR ρ (ev p.2) (ev' p.2)) → PaR ρ (l.map fun (i, x) => (i, ev x)) (l.map fun (i, x) => (i, ev' x)) := by
  intro l
  induction l with
  | nil => intro h; exact .nil
  | cons p l ih => intro h; exact .cons _ (h p List.mem_cons_self) (ih fun q hq => h q (List.mem_cons_of_mem _ hq))
theorem fold_set {ρ : Rn} (off : Nat) : ∀ (l l' : List (Value × Nat)), l.length = l'.length → (∀ (i : Nat) (p q : Value × Nat), l[i]? = some p → l'[i]? = some q → VR ρ p.1 q.1 ∧ p.2 = q.2) → ∀ (c c' : Array Value), ArR ρ c c' →
    ArR ρ (l.foldl (fun cs p => cs.setIfInBounds (off + p.2) p.1) c) (l'.foldl (fun cs p => cs.setIfInBounds (off + p.2) p.1) c') := by
  intro l
  induction l with
  | nil => intro l' hl h c c' r; cases l' with
    | nil => exact r
    | cons _ _ => cases hl
  | cons p l ih => intro l' hl h c c' r; cases l' with
    | nil => cases hl
    | cons q l' =>
      have h0 := h 0 p q rfl rfl
      show ArR ρ (l.foldl _ (c.setIfInBounds (off + p.2) p.1)) (l'.foldl _ (c'.setIfInBounds (off + q.2) q.1))
      rw [h0.2]
      exact ih l' (by simpa using hl) (fun i a b ha hb => h (i + 1) a b (by simpa using ha) (by simpa using hb)) _ _ (r.set _ h0.1)
theorem fillR {place : Nat → Option (Nat × Nat)} : ∀ (l l' : List (Nat × Value)) (c c' : Array Value), PaR ρ l l' → ArR ρ c c' →
    (Instr.fill place c l = none ∧ Instr.fill place c' l' = none) ∨ ∃ d d', Instr.fill place c l = some d ∧ Instr.fill place c' l' = some d' ∧ ArR ρ d d' := by
  intro l
  induction l with
  | nil => intro l' c c' h r; cases h; exact .inr ⟨c, c', rfl, rfl, r⟩
  | cons p l ih =>
    intro l' c c' h r
    cases h with
    | cons i hv hl =>
      rename_i v v' l'
      have hc := hv.cells
      simp only [Instr.fill]
      cases place i with
      | none => exact .inl ⟨rfl, rfl⟩
      | some os =>
        obtain ⟨off, size⟩ := os
        dsimp only
        rw [← hc.1, ← r.1]
        split
        · exact .inl ⟨rfl, rfl⟩
        · refine ih _ _ _ hl ?_
          rw [← Array.foldl_toList, ← Array.foldl_toList]
          refine fold_set off _ _ (by simp [hc.1]) (fun i p q hp hq => ?_) _ _ r
          simp only [Array.getElem?_toList, Array.getElem?_zipIdx, Option.map_eq_some_iff] at hp hq
          obtain ⟨a, ha, rfl⟩ := hp
          obtain ⟨b, hb, rfl⟩ := hq
          exact ⟨hc.2 _ _ _ ha hb, rfl⟩
theorem TR.buildSliceI (t : TypeId) (hz : Zsl P t) (n : Nat) {ps ps' : Array (Nat × Value)} (h : PaR ρ ps.toList ps'.toList) : TR P VR ρ (Instr.buildSlice t n ps) (Instr.buildSlice t n ps') := by
  refine TR.und t fun ρ1 d l1 e => ?_
  cases d <;> first | exact True.intro | skip
  rename_i elem
  refine TR.size' elem fun ρ2 i2 l2 ei2 => ?_
  dsimp only
  split
  · exact True.intro
  · have fin : ∀ {ρ3 : Rn} (c : Array Value), ArR ρ3 c c → Rn.le ρ ρ3 → TR P VR ρ3
        (match Instr.fill (fun i => some (i * i2.size, i2.size)) c ps.toList with
          | some cells => Go.newRow elem cells >>= fun a => pure (Value.slice (some a) n n)
          | _ => Go.stuck "buildSlice: a part of the wrong size")
        (match Instr.fill (fun i => some (i * i2.size, i2.size)) c ps'.toList with
          | some cells => Go.newRow elem cells >>= fun a => pure (Value.slice (some a) n n)
          | _ => Go.stuck "buildSlice: a part of the wrong size") := by
      intro ρ3 c hc l3
      rcases fillR (place := fun i => some (i * i2.size, i2.size)) _ _ c c (h.mono l3) hc with ⟨e1, e2⟩ | ⟨d, d', e1, e2, r⟩
      · rw [e1, e2]
        exact True.intro
      · rw [e1, e2]
        exact TR.b (TR.newRow elem r) fun ρ4 a a' l4 r => TR.ret (.slice _ _ fun _ => r.1)
    split
    · rename_i e0
      simp only [pb, e0]
      exact fin _ ⟨rfl, fun i v v' h => by simp at h⟩ (l1.trans l2)
    · rename_i e0
      refine TR.zero' elem fun ρ7 i3 z l7 ei3 e2 => ?_
      rw [ei2] at ei3
      cases ei3
      have hp : 0 < z.cells.size := (hz elem e i2 z ei2 e2).2 (Nat.pos_of_ne_zero fun q => e0 (by rw [q, Nat.mul_zero]))
      simp only [pb]
      exact fin _ (((hz elem e i2 z ei2 e2).1 ρ7).cells.zeros hp _) ((l1.trans l2).trans l7)
end
end Go.Proofs.YtgjhmbbbkkidlaaGreatDoor.sim
/-
  Two runs side by side: operators.
  Conditions: none; no program in sight.
-/
namespace Go.Proofs.YtgjhmbbbkkidlaaGreatDoor.sim
open Go
section
variable {P : Program} {α β γ δ : Type} {RR : Rn → α → β → Prop} {SS : Rn → γ → δ → Prop} {ρ : Rn}
theorem AdR.blk {a a' b b' : Addr} (h : AdR ρ a a') (g : AdR ρ b b') (e : a.block = b.block) : a'.block = b'.block := ρ.fn _ _ _ h.1 (e ▸ g.1)
theorem cellAt_mono (p : Program) (d : Nat) (e : TypeId) (c c' off : Nat) (n : Int) (h : c ≤ c') {o : Nat} (hc : cellAtBytes p d e c off n = some o) : cellAtBytes p d e c' off n = some o := by
  unfold cellAtBytes at hc ⊢
  dsimp only at hc ⊢
  split at hc
  · cases hc
  · rename_i h0
    rw [if_neg h0]
    cases e1 : byteOfCell p d e (off % p.cellsOf e) with
    | none => rw [e1] at hc; cases hc
    | some here =>
      rw [e1] at hc
      simp only [Option.bind_eq_bind, Option.bind_some] at hc ⊢
      split at hc
      · cases hc
      · rename_i h1
        rw [if_neg]
        · exact hc
        · intro h2
          apply h1
          simp only [Bool.or_eq_true, decide_eq_true_eq, Int.ofNat_eq_natCast, ge_iff_le] at h2 ⊢
          rcases h2 with h2 | h2
          · exact .inl h2
          · right
            have : (c * p.bytesOf e : Nat) ≤ c' * p.bytesOf e := Nat.mul_le_mul_right _ h
            omega
theorem TR.unsafeAddG {RR : Rn → Value → Value → Prop} (hRR : ∀ ρ a a', AdR ρ a a' → RR ρ (.pointer (some a)) (.pointer (some a'))) (ts : Array TypeId) (t : TypeId) {x x' y y' : Value} (h : VR ρ x x') (g : VR ρ y y') : TR P RR ρ (Builtin.unsafeAdd_ ts t #[x, y]) (Builtin.unsafeAdd_ ts t #[x', y']) := by
  unfold Builtin.unsafeAdd_
  cases h with
  | nilPtr =>
    dsimp only
    refine TR.int g fun ρ1 n l1 => ?_
    split
    · exact True.intro
    · split
      · exact True.intro
      · exact True.intro
  | ptr r =>
    dsimp only
    refine TR.int g fun ρ1 n l1 => ?_
    split
    · refine TR.b (TR.viewN (r.mono l1).1) fun ρ2 x y l2 e => ?_
      · obtain ⟨rfl, rfl⟩ := e
        exact TR.ret (hRR _ _ _ (r.mono (l1.trans l2)))
    · split
      · exact True.intro
      · refine TR.shp (r.mono l1).1 (fun ρ2 t c c' l2 hle _ => TR.prog fun ρ3 l3 => ?_) fun _ _ => True.intro
        rw [r.2.1]
        split
        · rename_i off e1
          rw [cellAt_mono _ _ _ _ (c' / P.cellsOf t) _ _ (Nat.div_le_div_right hle) e1]
          have := r.mono ((l1.trans l2).trans l3)
          exact TR.ret (hRR _ _ _ ⟨this.1, rfl, this.2.2⟩)
        · exact True.intro
  | _ => exact True.intro
theorem TR.unsafeAdd (ts : Array TypeId) (t : TypeId) {x x' y y' : Value} (h : VR ρ x x') (g : VR ρ y y') : TR P VR ρ (Builtin.unsafeAdd_ ts t #[x, y]) (Builtin.unsafeAdd_ ts t #[x', y']) := TR.unsafeAddG (fun _ _ _ r => .ptr r) ts t h g
theorem TR.moved (t : TypeId) {x x' y y' : Value} (h : VR ρ x x') (g : VR ρ y y') : TR P VR ρ (movedPointer t x y) (movedPointer t x' y') := by
  unfold movedPointer
  have rest : ∀ {ρ1 : Rn}, Rn.le ρ ρ1 → TR P VR ρ1 (Builtin.unsafeAdd_ #[] t #[x, y]) (Builtin.unsafeAdd_ #[] t #[x', y']) := fun l => TR.unsafeAdd _ _ (h.mono l) (g.mono l)
  have hh := h
  cases h with
  | ptr r =>
    refine TR.b (RR := fun _ p q => p.isSome = q.isSome) ?_ fun ρ' p q l e => ?_
    · exact .inr ⟨_, _, rfl, r.1, fun ρ' t n n' l _ _ => TR.ret rfl, fun ρ' l => .inr ⟨_, _, rfl, l.1 _ _ r.1, fun ρ2 a a' b l2 r => TR.ret rfl⟩⟩
    · rw [e]
      split
      · exact True.intro
      · exact rest l
  | _ => exact rest (Rn.le.refl _)
theorem TR.asNum {a a' : Addr} (h : AdR ρ a a') (l : Bool) : TR P VR ρ (asNumber a l) (asNumber a' l) :=
  ⟨_, _, rfl, .number l h, fun ρ' r r' l q o => TR.ret (.ptr ⟨q, rfl, rfl⟩)⟩
theorem TR.movedN (t : TypeId) {x x' y y' : Value} (h : VR ρ x x') (g : VR ρ y y') : TR P VR ρ (movedNumber t x y) (movedNumber t x' y') := by
  refine TR.und t fun ρ1 d l1 e => ?_
  have h1 := h.mono l1
  have g1 := g.mono l1
  dsimp only
  split
  · exact True.intro
  · have rest := TR.unsafeAdd (P := P) #[] t h1 g1
    cases h1 with
    | ptr r =>
      refine TR.behind r fun ρ2 b b' l l2 r2 => ?_
      refine TR.b (TR.unsafeAddG (RR := fun ρ v v' => ∃ a a', v = .pointer (some a) ∧ v' = .pointer (some a') ∧ AdR ρ a a') (fun _ a a' r => ⟨a, a', rfl, rfl, r⟩) #[] t (.ptr r2) (g1.mono l2)) fun ρ3 a b l3 q => ?_
      obtain ⟨_, _, rfl, rfl, r⟩ := q
      exact TR.asNum r _
    | _ => exact rest
end
end Go.Proofs.YtgjhmbbbkkidlaaGreatDoor.sim
/-
  Two runs side by side: two operands.
  Conditions: none; no program in sight.
-/
namespace Go.Proofs.YtgjhmbbbkkidlaaGreatDoor.sim
open Go
section
variable {P : Program} {α β γ δ : Type} {RR : Rn → α → β → Prop} {SS : Rn → γ → δ → Prop} {ρ : Rn}
theorem TR.two {a a' b b' : Addr} (hG : P.globals.size ≤ ρ.g0) (h : AdR ρ a a') (g : AdR ρ b b') : TR P Same ρ (Op.twoPlaces a b) (Op.twoPlaces a' b') := by
  unfold Op.twoPlaces
  refine TR.prog fun ρ1 l1 => ?_
  dsimp only
  by_cases c : a.block = b.block ∧ a.block < P.globals.size
  · have e1 : a'.block = b'.block := h.blk g c.1
    have e2 : a'.block = a.block := ρ.low _ _ h.1 (.inl (by omega))
    have c1 : ¬ ((a.block != b.block || decide (a.block ≥ P.globals.size)) = true) := by
      simp only [bne_iff_ne, ne_eq, Bool.or_eq_true, decide_eq_true_eq, not_or]
      exact ⟨fun h => h c.1, by omega⟩
    have c2 : ¬ ((a'.block != b'.block || decide (a'.block ≥ P.globals.size)) = true) := by
      simp only [bne_iff_ne, ne_eq, Bool.or_eq_true, decide_eq_true_eq, not_or]
      exact ⟨fun h => h e1, by omega⟩
    rw [if_neg c1, if_neg c2]
    refine TR.b (TR.byteOf (h.mono l1)) fun ρ2 x y l2 e => ?_
    cases e
    refine TR.b (TR.byteOf ((g.mono l1).mono l2)) fun ρ3 x y l3 e => ?_
    cases e
    exact TR.ret rfl
  · rw [if_pos]
    · exact True.intro
    · simp only [bne_iff_ne, ne_eq, Bool.or_eq_true, decide_eq_true_eq]
      by_cases e : a.block = b.block
      · right
        by_cases e2 : a.block < P.globals.size
        · exact (c ⟨e, e2⟩).elim
        · omega
      · exact .inl e
theorem hG1 {ρ ρ' : Rn} (l : Rn.le ρ ρ') {n : Nat} (h : n ≤ ρ.g0) : n ≤ ρ'.g0 := by rw [l.2.2]; exact h
theorem TR.addrSub {a a' b b' : Addr} (hG : P.globals.size ≤ ρ.g0) (h : AdR ρ a a') (g : AdR ρ b b') (k : IntKind) : TR P VR ρ (Op.addrSub k a b) (Op.addrSub k a' b') := by
  refine TR.b (TR.two hG h g) fun ρ1 x y l e => ?_
  cases e
  exact TR.ret (.int _ _)
theorem TR.addrCmp {a a' b b' : Addr} (hG : P.globals.size ≤ ρ.g0) (h : AdR ρ a a') (g : AdR ρ b b') (op : BinOp) : TR P VR ρ (Op.addrCmp op a b) (Op.addrCmp op a' b') := by
  refine TR.b (TR.two hG h g) fun ρ1 x y l e => ?_
  cases e
  cases op <;> first | exact True.intro | exact TR.ret (.bool _)
theorem TR.addrMod {a a' : Addr} (h : AdR ρ a a') (k : IntKind) (n : Int) : TR P VR ρ (Op.addrMod k a n) (Op.addrMod k a' n) := by
  unfold Op.addrMod
  refine TR.shp h.1 (fun ρ1 t c c' l1 _ _ => TR.info t fun ρ2 i l2 _ => ?_) fun _ _ => True.intro
  dsimp only
  split
  · exact True.intro
  · refine TR.b (TR.byteOf ((h.mono l1).mono l2)) fun ρ3 x y l3 e => ?_
    cases e
    exact TR.ret (.int _ _)
theorem TR.intArith (op : BinOp) (k : IntKind) (x y : Int) : TR P VR ρ (Op.intArith op k x y) (Op.intArith op k x y) := by
  cases op <;> first | exact True.intro | exact TR.ret (.int _ _)
theorem TR.intDiv (op : BinOp) (k : IntKind) (x y : Int) : TR P VR ρ (Op.intDiv op k x y) (Op.intDiv op k x y) := by
  unfold Op.intDiv
  split
  · exact TR.panic (e := .error _) trivial
  · cases op <;> first | exact True.intro | exact TR.ret (.int _ _)
theorem TR.intBits (op : BinOp) (k : IntKind) (x y : Int) : TR P VR ρ (Op.intBits op k x y) (Op.intBits op k x y) := by
  cases op <;> first | exact True.intro | exact TR.ret (.int _ _)
theorem TR.intCmp (op : BinOp) (x y : Int) : TR P VR ρ (Op.intCmp op x y) (Op.intCmp op x y) := by
  cases op <;> first | exact True.intro | exact TR.ret (.bool _)
theorem TR.shift (op : BinOp) (k k' : IntKind) (x y : Int) : TR P VR ρ (Op.shift op k x k' y) (Op.shift op k x k' y) := by
  unfold Op.shift
  split
  · exact TR.panic (e := .error _) trivial
  · cases op <;> first | exact True.intro | exact TR.ret (.int _ _)
theorem TR.floatArith (op : BinOp) (k : FloatKind) (x y : Nat) : TR P VR ρ (Op.floatArith op k x y) (Op.floatArith op k x y) := by
  unfold Op.floatArith
  have rest : ∀ (r : Option Nat), TR P VR ρ (match r with | some r => pure (Value.float k r) | none => do pure (Value.float k (← choose (.nanBits k x y)))) (match r with | some r => pure (Value.float k r) | none => do pure (Value.float k (← choose (.nanBits k x y)))) := by
    intro r
    cases r with
    | none => exact ⟨_, rfl, fun ρ' n l => TR.ret (.float _ _)⟩
    | some r => exact TR.ret (.float _ _)
  cases op <;> first | exact True.intro | exact rest _
theorem TR.floatCmp (op : BinOp) (k : FloatKind) (x y : Nat) : TR P VR ρ (Op.floatCmp op k x y) (Op.floatCmp op k x y) := by
  cases op <;> first | exact True.intro | exact TR.ret (.bool _)
theorem TR.stringOp (op : BinOp) (x y : ByteArray) : TR P VR ρ (Op.stringOp op x y) (Op.stringOp op x y) := by
  unfold Op.stringOp
  cases op <;> first
    | exact True.intro
    | exact TR.ret (.bool _)
    | (dsimp only
       split
       · exact True.intro
       · exact TR.ret (.string _))
/-- a type whose values the program compares -/
def EqOk (P : Program) (t : TypeId) : Prop := (P.underlying t = some .string ∨ P.underlying t = some .bool ∨ (∃ e, P.underlying t = some (.slice e)) ∨ ((∃ k, P.underlying t = some (.int k)) ∧ ∀ i, P.info? t = some i → ∀ u, i.desc ≠ .named "sync.copyChecker" u))
theorem AdR.same {a a' b b' : Addr} (h : AdR ρ a a') (g : AdR ρ b b') : (a = b ↔ a' = b') := by
  obtain ⟨a1, a2, a3⟩ := a
  obtain ⟨a1', a2', a3'⟩ := a'
  obtain ⟨b1, b2, b3⟩ := b
  obtain ⟨b1', b2', b3'⟩ := b'
  obtain ⟨h1, h2, h3⟩ := h
  obtain ⟨g1, g2, g3⟩ := g
  simp only at h1 h2 h3 g1 g2 g3
  subst h2 h3 g2 g3
  constructor
  · intro e
    cases e
    rw [ρ.fn _ _ _ h1 g1]
  · intro e
    cases e
    rw [ρ.inj _ _ _ h1 g1]
theorem TR.equal {t : TypeId} (ht : EqOk P t) (hG : P.globals.size ≤ ρ.g0) {x x' y y' : Value} (h : VR ρ x x') (g : VR ρ y y') : TR P Same ρ (Op.equal t x y) (Op.equal t x' y') := by
  unfold Op.equal Op.maxDepth Op.equalIn
  refine TR.und t fun ρ1 d l1 e => ?_
  have h1 := h.mono l1
  have g1 := g.mono l1
  rcases ht with ht | ht | ⟨el, ht⟩ | ⟨⟨k, ht⟩, hc⟩
  · rw [ht] at e
    cases e
    cases h1 <;> first | exact True.intro | skip
    cases g1 <;> first | exact True.intro | exact TR.ret rfl
  · rw [ht] at e
    cases e
    cases h1 <;> first | exact True.intro | skip
    cases g1 <;> first | exact True.intro | exact TR.ret rfl
  · rw [ht] at e
    cases e
    cases h1 <;> first | exact True.intro | skip
    · cases g1 <;> first | exact True.intro | exact TR.ret rfl
    · cases g1 <;> first | exact True.intro | exact TR.ret rfl
  · rw [ht] at e
    cases e
    cases h1 with
    | int k1 n =>
      cases g1 with
      | int k2 m =>
        dsimp only
        split
        · exact TR.ret rfl
        · exact True.intro
      | ptr r =>
        cases n with
        | ofNat n => cases n with
          | zero => exact TR.ret rfl
          | succ n => exact True.intro
        | negSucc n => exact True.intro
      | nilPtr => 
        cases n with
        | ofNat n => cases n with
          | zero => exact True.intro
          | succ n => exact True.intro
        | negSucc n => exact True.intro
      | _ => exact True.intro
    | ptr r =>
      cases g1 with
      | int k2 n =>
        cases n with
        | ofNat n => cases n with
          | zero => exact TR.ret rfl
          | succ n => exact True.intro
        | negSucc n => exact True.intro
      | ptr q =>
        refine TR.behind r fun ρ2 b b' l l2 r2 => ?_
        refine TR.behind (q.mono l2) fun ρ3 c c' l' l3 r3 => ?_
        refine TR.prog fun ρ4 l4 => ?_
        have r4 := (r2.mono l3).mono l4
        have q4 := r3.mono l4
        have hG4 : P.globals.size ≤ ρ4.g0 := hG1 (((l1.trans l2).trans l3).trans l4) hG
        have e4 : (b.block == c.block && decide (b.block < P.globals.size)) = (b'.block == c'.block && decide (b'.block < P.globals.size)) := by
          rw [Bool.eq_iff_iff]
          simp only [Bool.and_eq_true, beq_iff_eq, decide_eq_true_eq]
          constructor
          · rintro ⟨e1, e2⟩
            have := ρ4.low _ _ r4.1 (.inl (by omega))
            exact ⟨r4.blk q4 e1, by omega⟩
          · rintro ⟨e1, e2⟩
            have := ρ4.low _ _ r4.1 (.inr (by omega))
            exact ⟨ρ4.inj _ _ _ r4.1 (e1 ▸ q4.1), by omega⟩
        dsimp only
        rw [e4]
        split
        · refine TR.b (TR.byteOf r4) fun ρ5 x y l5 e => ?_
          cases e
          refine TR.b (TR.byteOf (q4.mono l5)) fun ρ6 x y l6 e => ?_
          cases e
          exact TR.ret rfl
        · refine TR.info t fun ρ5 i l5 ei => ?_
          split
          · rename_i u e
            exact (hc i ei _ e).elim
          · exact True.intro
      | _ => exact True.intro
    | nilPtr =>
      cases g1 with
      | int k2 n =>
        cases n with
        | ofNat n => cases n with
          | zero => exact True.intro
          | succ n => exact True.intro
        | negSucc n => exact True.intro
      | _ => exact True.intro
    | _ => cases g1 <;> exact True.intro
end
end Go.Proofs.YtgjhmbbbkkidlaaGreatDoor.sim
/-
  Two runs side by side: binary and unary operators, joined.
  Conditions: none; no program in sight.
-/
namespace Go.Proofs.YtgjhmbbbkkidlaaGreatDoor.sim
open Go
section
variable {P : Program} {α β γ δ : Type} {RR : Rn → α → β → Prop} {SS : Rn → γ → δ → Prop} {ρ : Rn}
def Eqs (op : BinOp) : Prop := op = .eql ∨ op = .neq
theorem TR.eqGuard (op : BinOp) {t : TypeId} (x y : Operand) (ht : Eqs op → EqOk P t) {a a' b b' : Value} (h : VR ρ a a') (g : VR ρ b b') : TR P (fun _ _ _ => True) ρ (eqGuard op t x y a b) (eqGuard op t x y a' b') := by
  unfold Go.eqGuard
  by_cases he : Eqs op
  · have ht := ht he
    have notype : Program.eqGuardType P P.depth t = false := by
      unfold Program.depth Program.eqGuardType
      rcases ht with ht | ht | ⟨el, ht⟩ | ⟨⟨k, ht⟩, hc⟩ <;> rw [ht]
    have no : ∀ {ρ1 : Rn}, TR P Same ρ1 (Op.eqGuardIn Op.maxDepth t .nilIface .nilIface) (Op.eqGuardIn Op.maxDepth t .nilIface .nilIface) := by
      intro ρ1
      unfold Op.maxDepth Op.eqGuardIn
      refine TR.und t fun ρ2 d l e => ?_
      rcases ht with ht | ht | ⟨el, ht⟩ | ⟨⟨k, ht⟩, hc⟩ <;> (rw [ht] at e; cases e; exact TR.ret rfl)
    have main : ∀ _ : BinOp, TR P (fun _ _ _ => True) ρ (Go.eqGuard .eql t x y a b) (Go.eqGuard .eql t x y a' b') := by
      intro _
      unfold Go.eqGuard
      cases h with
      | nilIface =>
        cases g with
        | nilIface =>
          cases x <;> cases y <;> first
            | exact TR.ret trivial
            | exact TR.b no fun ρ1 p q l e => by
                cases e
                cases p
                · exact TR.ret trivial
                · exact True.intro
        | junk j => cases b' <;> first | exact j.elim | exact TR.ret trivial
        | _ => exact TR.ret trivial
      | junk i =>
        cases a' <;> first | exact i.elim | (cases g with
          | junk j => cases b' <;> first | exact j.elim | exact TR.ret trivial
          | _ => exact TR.ret trivial)
      | agg u v =>
        cases g with
        | agg u' v' =>
          refine TR.prog fun ρ1 l1 => TR.prog fun ρ2 l2 => ?_
          rw [notype]
          exact TR.ret trivial
        | junk j => cases b' <;> first | exact j.elim | exact TR.ret trivial
        | _ => exact TR.ret trivial
      | _ =>
        cases g with
        | junk j => cases b' <;> first | exact j.elim | exact TR.ret trivial
        | _ => exact TR.ret trivial
    rcases he with rfl | rfl <;> exact main .eql
  · cases op <;> first | exact (he (.inl rfl)).elim | exact (he (.inr rfl)).elim | exact TR.ret trivial
theorem TR.addI (t : TypeId) {x x' y y' : Value} (h : VR ρ x x') (g : VR ρ y y') : TR P VR ρ (do if (← underlying t) matches .unsafePointer then movedPointer t x y else movedNumber t x y) (do if (← underlying t) matches .unsafePointer then movedPointer t x' y' else movedNumber t x' y') := by
  refine TR.und t fun ρ1 d l1 e => ?_
  split
  · exact TR.moved t (h.mono l1) (g.mono l1)
  · exact TR.movedN t (h.mono l1) (g.mono l1)
theorem junk_eql (P : Program) (t : TypeId) {β : Type} (f : Bool → Sem β) : ∃ k, (Op.equal t (.tuple #[]) (.tuple #[]) >>= f) = .program k ∧ Dead (k P) := by
  unfold Op.equal Op.maxDepth Op.equalIn
  refine ⟨_, rfl, ?_⟩
  show Dead (Sem.bind (Sem.bind (match P.underlying t with | some d => pure d | none => Go.stuck "no such type") _) f)
  cases e : P.underlying t with
  | none => trivial
  | some d => cases d <;> trivial
theorem TR.junkEq {RR : Rn → Value → Value → Prop} (op : BinOp) (h : op = .eql ∨ op = .neq) (t : TypeId) (y : Sem Value) : TR P RR ρ (Go.binOp op t (.tuple #[]) (.tuple #[])) y := by
  rcases h with rfl | rfl
  · obtain ⟨k, e, d⟩ := junk_eql P t fun c => pure (Value.bool c)
    show TR P RR ρ (Op.equal t (.tuple #[]) (.tuple #[]) >>= fun c => pure (Value.bool c)) y
    rw [e]
    exact .inl d
  · obtain ⟨k, e, d⟩ := junk_eql P t fun c => pure (Value.bool !c)
    show TR P RR ρ (Op.equal t (.tuple #[]) (.tuple #[]) >>= fun c => pure (Value.bool !c)) y
    rw [e]
    exact .inl d
set_option maxHeartbeats 8000000 in
theorem TR.binOp (op : BinOp) {t : TypeId} (ht : Eqs op → EqOk P t) (hG : P.globals.size ≤ ρ.g0) {a a' b b' : Value} (h : VR ρ a a') (g : VR ρ b b') : TR P VR ρ (binOp op t a b) (binOp op t a' b') := by
  have eq1 : Eqs op → TR P VR ρ (Op.equal t a b >>= fun c => pure (Value.bool c)) (Op.equal t a' b' >>= fun c => pure (Value.bool c)) := fun e => TR.b (TR.equal (ht e) hG h g) fun ρ1 x y l e => by cases e; exact TR.ret (.bool _)
  have eq2 : Eqs op → TR P VR ρ (Op.equal t a b >>= fun c => pure (Value.bool !c)) (Op.equal t a' b' >>= fun c => pure (Value.bool !c)) := fun e => TR.b (TR.equal (ht e) hG h g) fun ρ1 x y l e => by cases e; exact TR.ret (.bool _)
  have h0 := h
  have g0 := g
  cases h with
  | int k n =>
    cases g with
    | int k2 m =>
      cases op <;> first
        | (unfold Go.binOp; exact TR.shift _ _ _ _ _)
        | (unfold Go.binOp
           dsimp only
           split
           · exact True.intro
           · first | exact TR.intArith _ _ _ _ | exact TR.intDiv _ _ _ _ | exact TR.intBits _ _ _ _ | exact TR.intCmp _ _ _)
    | ptr r =>
      cases op <;> first | exact True.intro | exact eq1 (.inl rfl) | exact eq2 (.inr rfl) | exact TR.movedN t g0 h0 | exact TR.behind r fun ρ1 c c' l l1 r1 => TR.addrMod r1 _ _
    | junk j => cases b' <;> first | exact j.elim | (cases op <;> first | exact True.intro | exact eq1 (.inl rfl) | exact eq2 (.inr rfl) | exact TR.movedN t g0 h0 | exact TR.movedN t h0 g0)
    | _ => cases op <;> first | exact True.intro | exact eq1 (.inl rfl) | exact eq2 (.inr rfl) | exact TR.movedN t g0 h0
  | ptr r =>
    cases g with
    | int k2 m =>
      have add := TR.addI (P := P) t h0 g0
      cases op <;> first
        | exact True.intro
        | exact eq1 (.inl rfl)
        | exact eq2 (.inr rfl)
        | exact add
        | exact TR.movedN t h0 (.int _ _)
        | exact TR.behind r fun ρ1 c c' l l1 r1 => TR.addrMod r1 _ _
    | ptr q =>
      cases op <;> first
        | exact True.intro
        | exact eq1 (.inl rfl)
        | exact eq2 (.inr rfl)
        | exact TR.behind r fun ρ1 c c' l l1 r1 => TR.behind (q.mono l1) fun ρ2 d d' l' l2 q2 => TR.addrSub (hG1 (l1.trans l2) hG) (r1.mono l2) q2 _
        | exact TR.behind r fun ρ1 c c' l l1 r1 => TR.behind (q.mono l1) fun ρ2 d d' l' l2 q2 => TR.addrCmp (hG1 (l1.trans l2) hG) (r1.mono l2) q2 _
    | junk j => cases b' <;> first | exact j.elim | (cases op <;> first | exact True.intro | exact eq1 (.inl rfl) | exact eq2 (.inr rfl) | exact TR.movedN t g0 h0 | exact TR.movedN t h0 g0)
    | _ => cases op <;> first | exact True.intro | exact eq1 (.inl rfl) | exact eq2 (.inr rfl)
  | nilPtr =>
    cases g with
    | int k2 m =>
      have add := TR.addI (P := P) t h0 g0
      cases op <;> first
        | exact True.intro
        | exact eq1 (.inl rfl)
        | exact eq2 (.inr rfl)
        | exact add
        | exact TR.movedN t h0 (.int _ _)
    | junk j => cases b' <;> first | exact j.elim | (cases op <;> first | exact True.intro | exact eq1 (.inl rfl) | exact eq2 (.inr rfl) | exact TR.movedN t g0 h0 | exact TR.movedN t h0 g0)
    | _ => cases op <;> first | exact True.intro | exact eq1 (.inl rfl) | exact eq2 (.inr rfl)
  | float k x =>
    cases g with
    | float k2 y =>
      cases op <;> first
        | exact True.intro
        | (unfold Go.binOp
           dsimp only
           split
           · exact True.intro
           · first | exact TR.floatArith _ _ _ _ | exact TR.floatCmp _ _ _ _)
    | junk j => cases b' <;> first | exact j.elim | (cases op <;> first | exact True.intro | exact eq1 (.inl rfl) | exact eq2 (.inr rfl) | exact TR.movedN t g0 h0 | exact TR.movedN t h0 g0)
    | _ => cases op <;> first | exact True.intro | exact eq1 (.inl rfl) | exact eq2 (.inr rfl)
  | string s =>
    cases g with
    | string s2 => cases op <;> (unfold Go.binOp; exact TR.stringOp _ _ _)
    | junk j => cases b' <;> first | exact j.elim | (cases op <;> first | exact True.intro | exact eq1 (.inl rfl) | exact eq2 (.inr rfl) | exact TR.movedN t g0 h0 | exact TR.movedN t h0 g0)
    | _ => cases op <;> first | exact True.intro | exact eq1 (.inl rfl) | exact eq2 (.inr rfl)
  | junk i =>
    cases a' <;> first | exact i.elim | (cases g with
      | junk j => cases b' <;> first | exact j.elim | (cases op <;> first | exact True.intro | exact eq1 (.inl rfl) | exact eq2 (.inr rfl) | exact TR.junkEq _ (.inl rfl) _ _ | exact TR.junkEq _ (.inr rfl) _ _)
      | _ => (cases op <;> first | exact True.intro | exact eq1 (.inl rfl) | exact eq2 (.inr rfl) | exact TR.movedN t g0 h0 | exact TR.movedN t h0 g0))
  | _ =>
    cases g with
    | junk j => cases b' <;> first | exact j.elim | (cases op <;> first | exact True.intro | exact eq1 (.inl rfl) | exact eq2 (.inr rfl) | exact TR.movedN t g0 h0 | exact TR.movedN t h0 g0)
    | _ => cases op <;> first | exact True.intro | exact eq1 (.inl rfl) | exact eq2 (.inr rfl)
end
end Go.Proofs.YtgjhmbbbkkidlaaGreatDoor.sim
/-
  Two runs side by side: unary operators, parts of values, the methods behind an interface.
  Conditions: none; no program in sight.
-/
namespace Go.Proofs.YtgjhmbbbkkidlaaGreatDoor.sim
open Go
section
variable {P : Program} {α β γ δ : Type} {RR : Rn → α → β → Prop} {SS : Rn → γ → δ → Prop} {ρ : Rn}
theorem TR.unary (op : UnOp) {x x' : Value} (h : VR ρ x x') : TR P VR ρ (Op.unary op x) (Op.unary op x') := by
  cases h <;> cases op <;> first
    | exact True.intro
    | exact TR.ret (VR.int _ _)
    | exact TR.ret (VR.float _ _)
    | exact TR.ret (VR.bool _)
theorem ArR.extract {x x' : Array Value} (h : ArR ρ x x') (i j : Nat) : ArR ρ (x.extract i j) (x'.extract i j) := by
  refine ⟨by simp [h.1], fun n v v' h1 h2 => ?_⟩
  rw [Array.getElem?_extract] at h1 h2
  rw [← h.1] at h2
  split at h1
  · rename_i c
    rw [if_pos c] at h2
    exact h.2 _ _ _ h1 h2
  · cases h1
theorem TR.part (t : TypeId) {x x' : Array Value} (h : ArR ρ x x') (off : Nat) : TR P VR ρ (part t x off) (part t x' off) := by
  refine TR.agg t fun ρ1 b l1 => ?_
  cases b
  · rw [if_neg (by simp), if_neg (by simp)]
    cases e : x[off]? with
    | none => exact True.intro
    | some v =>
      obtain ⟨v', e', r⟩ := h.get e
      rw [e']
      exact TR.ret (r.mono l1)
  · exact TR.size t fun ρ2 n l2 => TR.ret (VR.agg' (((h.mono l1).mono l2).extract _ _))
/-- where a method's receiver is looked for -/
inductive PlR (ρ : Rn) : Place → Place → Prop
  | val {v v' : Value} : VR ρ v v' → PlR ρ (.val v) (.val v')
  | var {a a' : Addr} : AdR ρ a a' → PlR ρ (.var a) (.var a')
theorem PlR.mono {ρ ρ' : Rn} (h : Rn.le ρ ρ') {x x' : Place} (g : PlR ρ x x') : PlR ρ' x x' := by
  cases g with
  | val r => exact .val (r.mono h)
  | var r => exact .var (r.mono h)
theorem TR.get (t : TypeId) {x x' : Place} (h : PlR ρ x x') : TR P VR ρ (x.get t) (x'.get t) := by
  cases h with
  | val r => exact TR.ret r
  | var r => exact TR.loadVar t r
theorem TR.follow : ∀ (l : List FieldStep) (t : TypeId) {x x' : Place} {ρ : Rn}, PlR ρ x x' → TR P (fun ρ p q => p.1 = q.1 ∧ PlR ρ p.2 q.2) ρ (follow l t x) (follow l t x') := by
  intro l
  induction l with
  | nil => intro t x x' ρ h; exact TR.ret ⟨rfl, h⟩
  | cons s rest ih =>
    intro t x x' ρ h
    unfold Go.follow
    refine TR.und _ fun ρ1 d l1 e => ?_
    cases d <;> first | exact True.intro | skip
    rename_i fields
    have h1 := h.mono l1
    dsimp only
    cases fields[s.index]? with
    | none => exact True.intro
    | some f =>
      dsimp only
      cases s.deref with
      | true =>
        rw [if_pos rfl, if_pos rfl]
        refine TR.b (TR.get t h1) fun ρ2 v v' l2 r => TR.addr r fun a a' r2 => TR.b (TR.fieldPlace r2 f) fun ρ3 b b' l3 r3 => ih _ (.var r3)
      | false =>
        rw [if_neg (by simp), if_neg (by simp)]
        cases h1 with
        | var r => exact TR.b (TR.fieldPlace r f) fun ρ3 b b' l3 r3 => ih _ (.var r3)
        | val r =>
          cases r with
          | agg a b => exact TR.b (TR.part f.type ⟨a, b⟩ _) fun ρ3 b b' l3 r3 => ih _ (.val r3)
          | _ => exact True.intro
theorem TR.wrap (t : TypeId) (name : String) {x x' : Value} (h : VR ρ x x') : TR P VR ρ (Builtin.ssaWrapNilChk_ #[t] t #[x, strVal "", strVal name]) (Builtin.ssaWrapNilChk_ #[t] t #[x', strVal "", strVal name]) := by
  cases h with
  | ptr r => exact TR.ret (.ptr r)
  | nilPtr =>
    refine ⟨_, rfl, fun ρ1 n l1 => ?_⟩
    show TR P VR ρ1 (ite ((n == 1) = true) _ _) (ite ((n == 1) = true) _ _)
    split
    · exact TR.panicb (e := .nilDeref) trivial _ _
    · show TR P VR ρ1 (underlying t >>= _) (underlying t >>= _)
      refine TR.und t fun ρ2 d l2 e => ?_
      cases d <;> first | exact True.intro | skip
      refine TR.info _ fun ρ3 i l3 e3 => ?_
      split
      · split
        · dsimp only
          split
          · exact TR.panic (e := .plain _) trivial
          · exact True.intro
        · exact True.intro
      · exact True.intro
  | _ => exact True.intro
theorem TR.recv (t : TypeId) {x x' : Place} (h : PlR ρ x x') (b : Bool) (w : Option String) : TR P VR ρ (receiverAt t x b w) (receiverAt t x' b w) := by
  refine TR.und t fun ρ1 d l1 e => ?_
  have h1 := h.mono l1
  have ptr : ∀ elem, TR P VR ρ1 (do
      let ptr ← x.get t
      let ptr ← match w with
        | some name => Builtin.ssaWrapNilChk_ #[t] t #[ptr, strVal "", strVal name]
        | none => pure ptr
      Go.loadVar elem (← asAddr ptr)) (do
      let ptr ← x'.get t
      let ptr ← match w with
        | some name => Builtin.ssaWrapNilChk_ #[t] t #[ptr, strVal "", strVal name]
        | none => pure ptr
      Go.loadVar elem (← asAddr ptr)) := by
    intro elem
    refine TR.b (TR.get t h1) fun ρ2 v v' l2 r => ?_
    cases w with
    | none => exact TR.addr r fun a a' ra => TR.loadVar _ ra
    | some name => exact TR.b (TR.wrap t name r) fun ρ3 u u' l3 q => TR.addr q fun a a' ra => TR.loadVar _ ra
  cases b with
  | true =>
    cases d <;> first
      | exact TR.get t h1
      | (cases h1 with
         | var r => exact TR.ret (.ptr r)
         | val r => exact True.intro)
  | false =>
    cases d <;> first
      | exact TR.get t h1
      | exact ptr _
/-- the functions of which a lone run is carried over -/
def Wk (f : FuncId) : Prop := 4 ≤ f ∧ f ≤ 11 ∨ f = 14 ∨ f = 15 ∨ 18 ≤ f ∧ f ≤ 41 ∨ f = 79 ∨ f = 80
/-- a worker's function with a body in Go -/
def HasBody (P : Program) (f : FuncId) : Prop := Wk f ∧ ∃ fn, P.funcs[f]? = some fn ∧ fn.body.isNone = false ∧ (fn.name == "runtime.NumGoroutine") = false
/-- every method of this name is a worker's function -/
def MethOk (P : Program) (name : String) : Prop := ∀ t i m f b, P.info? t = some i → i.methods.find? (·.name == name) = some m → m.func = some (f, b) → HasBody P f
theorem TR.method (name : String) (hm : MethOk P name) : ∀ (n : Nat) (t : TypeId) {v v' : Value} {ρ : Rn}, VR ρ v v' → TR P (fun ρ p q => p.1 = q.1 ∧ VR ρ p.2 q.2 ∧ HasBody P p.1) ρ (method n t v name) (method n t v' name) := by
  intro n
  induction n with
  | zero => intro t v v' ρ h; exact True.intro
  | succ n ih =>
    intro t v v' ρ h
    unfold Go.method
    refine TR.info t fun ρ1 i l1 ei => ?_
    cases em : i.methods.find? (·.name == name) with
    | none => exact True.intro
    | some m =>
      dsimp only
      refine TR.b (TR.follow m.path.toList t (.val (h.mono l1))) fun ρ2 p q l2 e => ?_
      obtain ⟨p1, p2⟩ := p
      obtain ⟨q1, q2⟩ := q
      obtain ⟨e1, e2⟩ := e
      cases e1
      dsimp only
      cases ef : m.func with
      | none =>
        refine TR.b (TR.get p1 e2) fun ρ3 u u' l3 r => ?_
        cases r with
        | iface r => exact ih _ r
        | nilIface => exact TR.panic (e := .nilDeref) trivial
        | _ => exact True.intro
      | some fb =>
        obtain ⟨f, b⟩ := fb
        exact TR.b (TR.recv p1 e2 b _) fun ρ3 u u' l3 r => TR.ret ⟨rfl, r, hm t i m f b ei em ef⟩
end
end Go.Proofs.YtgjhmbbbkkidlaaGreatDoor.sim
/-
  Two runs side by side: nil checks, calls.
  Conditions: none; no program in sight.
-/
namespace Go.Proofs.YtgjhmbbbkkidlaaGreatDoor.sim
open Go
section
variable {P : Program} {α β γ δ : Type} {RR : Rn → α → β → Prop} {SS : Rn → γ → δ → Prop} {ρ : Rn}
/-- what a blind look comes to -/
inductive BlR (ρ : Rn) : Except (Option Bool) (TypeId × Option Value) → Except (Option Bool) (TypeId × Option Value) → Prop
  | error (r : Option Bool) : BlR ρ (.error r) (.error r)
  | ok (t : TypeId) {x x' : Option Value} : OvR ρ x x' → BlR ρ (.ok (t, x)) (.ok (t, x'))
theorem TR.blind : ∀ (l : List FieldStep) (t : TypeId) {x x' : Option Value} {ρ : Rn}, OvR ρ x x' → TR P BlR ρ (followBlind l t x) (followBlind l t x') := by
  intro l
  induction l with
  | nil => intro t x x' ρ h; exact TR.ret (.ok t h)
  | cons s rest ih =>
    intro t x x' ρ h
    unfold Go.followBlind
    refine TR.und _ fun ρ1 d l1 e => ?_
    cases d <;> first | exact True.intro | skip
    rename_i fields
    have h1 := h.mono l1
    dsimp only
    cases fields[s.index]? with
    | none => exact True.intro
    | some f =>
      dsimp only
      cases x with
      | none =>
        cases x' with
        | none =>
          cases s.deref with
          | true => exact TR.ret (.error _)
          | false => exact ih f.type (x := none) (x' := none) trivial
        | some _ => exact h.elim
      | some v =>
        cases x' with
        | none => exact h.elim
        | some v' =>
          have r : VR ρ1 v v' := h1
          cases s.deref with
          | true =>
            cases r with
            | nilPtr => exact TR.ret (.error _)
            | ptr q => exact ih f.type (x := none) (x' := none) trivial
            | _ => exact True.intro
          | false =>
            cases r with
            | agg a b => exact TR.b (TR.part f.type ⟨a, b⟩ _) fun ρ3 b b' l3 r3 => ih _ r3
            | _ => exact True.intro
theorem TR.nilAhead : ∀ (n : Nat) (t : TypeId) {v v' : Value} (name : String) {ρ : Rn}, VR ρ v v' → TR P Same ρ (nilAhead n t v name) (nilAhead n t v' name) := by
  intro n
  induction n with
  | zero => intro t v v' name ρ h; exact TR.ret rfl
  | succ n ih =>
    intro t v v' name ρ h
    unfold Go.nilAhead
    refine TR.info t fun ρ1 i l1 _ => ?_
    cases i.methods.find? (·.name == name) with
    | none => exact True.intro
    | some m =>
      dsimp only
      refine TR.b (TR.blind m.path.toList t (x := some v) (x' := some v') (h.mono l1)) fun ρ2 p q l2 e => ?_
      cases e with
      | error r => exact TR.ret rfl
      | ok xt hx =>
        rename_i x x'
        dsimp only
        cases m.func with
        | none =>
          cases x with
          | none => cases x' with
            | none => exact TR.ret rfl
            | some _ => exact hx.elim
          | some u => cases x' with
            | none => exact hx.elim
            | some u' =>
              have r : VR ρ2 u u' := hx
              cases r with
              | iface r => exact ih _ _ r
              | nilIface => exact TR.ret rfl
              | _ => exact True.intro
        | some fb =>
          obtain ⟨f, b⟩ := fb
          cases b with
          | true => cases x <;> cases x' <;> exact TR.ret rfl
          | false =>
            have und : ∀ {ρ3 : Rn}, Rn.le ρ2 ρ3 → True := fun _ => trivial
            cases x with
            | none => cases x' with
              | none =>
                refine TR.und xt fun ρ3 d l3 e => ?_
                cases d <;> exact TR.ret rfl
              | some _ => exact hx.elim
            | some u => cases x' with
              | none => exact hx.elim
              | some u' =>
                have r : VR ρ2 u u' := hx
                refine TR.und xt fun ρ3 d l3 e => ?_
                cases r with
                | junk j =>
                  cases u' with
                  | pointer q =>
                    cases q with
                    | none => exact j.elim
                    | some q => cases d <;> exact TR.ret rfl
                  | _ => first | exact j.elim | (cases d <;> exact TR.ret rfl)
                | _ => cases d <;> exact TR.ret rfl
end
end Go.Proofs.YtgjhmbbbkkidlaaGreatDoor.sim
/-
  Two runs side by side: one operation.
  Conditions: none; no program in sight.
-/
namespace Go.Proofs.YtgjhmbbbkkidlaaGreatDoor.sim
open Go
section
variable {P : Program} {α β γ δ : Type} {RR : Rn → α → β → Prop} {SS : Rn → γ → δ → Prop} {ρ : Rn}
/-- one case of a communication -/
def CaR (ρ : Rn) (c c' : CommCase) : Prop := VR ρ c.chan c'.chan ∧ OvR ρ c.send c'.send ∧ VR ρ c.zero c'.zero
/-- what an operation comes to -/
inductive NxR (P : Program) (ρ : Rn) : Next → Next → Prop
  | value {v v' : Value} : VR ρ v v' → NxR P ρ (.value v) (.value v')
  | skip : NxR P ρ .skip .skip
  | enter (f : FuncId) {x x' : Array Value} : HasBody P f → ArR ρ x x' → NxR P ρ (.enter f x) (.enter f x')
  | send {c c' : CommCase} : CaR ρ c c' → NxR P ρ (.comm #[c] true .send) (.comm #[c'] true .send)
def GoodX (P : Program) : Operand → Prop
  | .const v => ∀ ρ, VR ρ v v
  | .global g => g < P.globals.size
  | _ => True
theorem TR.callFunc {f : FuncId} (hf : HasBody P f) {x x' : Array Value} (h : ArR ρ x x') : TR P (NxR P) ρ (callFunc f x) (callFunc f x') := by
  have hb := hf
  obtain ⟨_, fn, e1, e2, e3⟩ := hf
  refine TR.prog fun ρ1 l1 => ?_
  rw [e1]
  dsimp only
  rw [e3, e2]
  rw [if_neg (by simp), if_neg (by simp), if_neg (by simp)]
  exact TR.ret (.enter f hb (h.mono l1))
theorem TR.callMethod {name : String} (hm : MethOk P name) {v v' : Value} (g : VR ρ v v') {x x' : Array Value} (h : ArR ρ x x') : TR P (NxR P) ρ (callMethod v name x) (callMethod v' name x') := by
  cases g with
  | iface r =>
    refine TR.prog fun ρ1 l1 => TR.b (TR.method name hm _ _ (r.mono l1)) fun ρ2 p q l2 e => ?_
    obtain ⟨p1, p2⟩ := p
    obtain ⟨q1, q2⟩ := q
    obtain ⟨e1, e2, e3⟩ := e
    cases e1
    exact TR.callFunc e3 (ArR.append ((ArR.nil _).push e2) ((h.mono l1).mono l2))
  | nilIface => exact TR.panic (e := .nilDeref) trivial
  | _ => exact True.intro
theorem TR.val {x y : Sem Value} (h : TR P VR ρ x y) : TR P (NxR P) ρ (x >>= fun v => pure (.value v)) (y >>= fun v => pure (.value v)) := TR.b h fun ρ1 a b l r => TR.ret (.value r)
theorem TR.unit {x y : Sem Unit} (h : TR P (fun _ _ _ => True) ρ x y) : TR P (NxR P) ρ (x >>= fun _ => pure .skip) (y >>= fun _ => pure .skip) := TR.b h fun ρ1 a b l r => TR.ret .skip
theorem ArR.ofMap {ev ev' : Operand → Value} {xs : Array Operand} (h : ∀ x ∈ xs, VR ρ (ev x) (ev' x)) : ArR ρ (xs.map ev) (xs.map ev') := by
  refine ⟨by simp, fun i v v' h1 h2 => ?_⟩
  rw [Array.getElem?_map] at h1 h2
  cases e : xs[i]? with
  | none => rw [e] at h1; cases h1
  | some x =>
    rw [e] at h1 h2
    cases h1
    cases h2
    exact h x (Array.mem_of_getElem? e)
theorem TR.nilCheck {v v' : Value} (h : VR ρ v v') (ev ev' : Operand → Value) (x : Operand) (e : ev x = v) (e' : ev' x = v') (o : Oper) (ho : o.op = .nilCheck x) : TR P (NxR P) ρ (execOp ev o) (execOp ev' o) := by
  unfold execOp
  rw [ho]
  dsimp only
  rw [e, e']
  cases h with
  | nilPtr => exact TR.panic (e := .nilDeref) trivial
  | nilIface => exact TR.panic (e := .nilDeref) trivial
  | nilFunc => exact TR.panic (e := .nilDeref) trivial
  | func a b c d =>
    rename_i fn xs xs' ys ys'
    have hv : VR ρ (.func fn xs ys) (.func fn xs' ys') := .func a b c d
    cases fn with
    | method name =>
      dsimp only
      cases e1 : xs[0]? with
      | none =>
        rw [ArR.none ⟨a, b⟩ e1]
        exact TR.ret (.value hv)
      | some w =>
        obtain ⟨w', e2, r⟩ := ArR.get ⟨a, b⟩ e1
        rw [e2]
        cases r with
        | nilIface => exact TR.panic (e := .nilDeref) trivial
        | iface r =>
          refine TR.prog fun ρ1 l1 => TR.b (TR.nilAhead _ _ name (r.mono l1)) fun ρ2 p q l2 e => ?_
          cases e
          split
          · exact True.intro
          · exact TR.ret (.value (hv.mono (l1.trans l2)))
        | junk j => cases w' <;> first | exact j.elim | exact TR.ret (.value hv)
        | _ => exact TR.ret (.value hv)
    | _ => exact TR.ret (.value hv)
  | bool b => exact TR.ret (.value (.bool b))
  | int k n => exact TR.ret (.value (.int k n))
  | float k n => exact TR.ret (.value (.float k n))
  | string s => exact TR.ret (.value (.string s))
  | ptr r => exact TR.ret (.value (.ptr r))
  | nilSlice l c => exact TR.ret (.value (.nilSlice l c))
  | slice l c r => exact TR.ret (.value (.slice l c r))
  | map r => exact TR.ret (.value (.map r))
  | chan r => exact TR.ret (.value (.chan r))
  | iface r => exact TR.ret (.value (.iface r))
  | agg a b => exact TR.ret (.value (.agg a b))
  | tuple a b => exact TR.ret (.value (.tuple a b))
  | junk j =>
    have hj : VR ρ (.tuple #[]) v' := .junk j
    cases v' with
    | pointer q =>
      cases q with
      | none => exact j.elim
      | some q => exact TR.ret (.value hj)
    | _ => first | exact j.elim | exact TR.ret (.value hj)
end
end Go.Proofs.YtgjhmbbbkkidlaaGreatDoor.sim
/-
  Two runs side by side: the lone run's halts are no wait for a variable's start.
  Conditions: none; no program in sight.
-/
namespace Go.Proofs.YtgjhmbbbkkidlaaGreatDoor.sim
open Go
theorem noCell_ord {ρ : Rn} {v w : World} (hw : WR ρ v w) (a : Addr) (s : String) : Ord (v.noCell a s) := by
  unfold World.noCell
  rcases hw.only a.block with o | ⟨c, e, fr, o⟩ | ⟨n, l, _, o⟩ <;> rw [o] <;> exact True.intro
theorem farLoad_ord {ρ : Rn} {v w : World} (hw : WR ρ v w) (P : Program) (a : Addr) (b : Bool) : ∃ h, v.farLoad P a b = .error h ∧ Ord h := by
  unfold World.farLoad
  rcases hw.only a.block with o | ⟨c, e, fr, o⟩ | ⟨n, l, _, o⟩ <;> rw [o] <;> exact ⟨_, rfl, noCell_ord hw a _⟩
theorem farStore_ord {ρ : Rn} {v w : World} (hw : WR ρ v w) (P : Program) (a : Addr) (x : Value) (b : Bool) : ∃ h, v.farStore P a x b = .error h ∧ Ord h := by
  unfold World.farStore
  rcases hw.only a.block with o | ⟨c, e, fr, o⟩ | ⟨n, l, _, o⟩ <;> rw [o] <;> exact ⟨_, rfl, noCell_ord hw a _⟩
end Go.Proofs.YtgjhmbbbkkidlaaGreatDoor.sim
/-
  Two runs side by side: how a tree ends, and that it reads the tape only where it draws.
  Conditions: none; no program in sight.
-/
namespace Go.Proofs.YtgjhmbbbkkidlaaGreatDoor.sim
open Go
/-- the world with another tape -/
def onT (v : World) (T : Tape) (D : Nat) : World := { v with tape := T, drawn := D }
theorem onT_set (v : World) (T : Tape) (D : Nat) (a : Addr) (x : Value) : (onT v T D).setCell a x = onT (v.setCell a x) T D ∧ (v.setCell a x).drawn = v.drawn ∧ (v.setCell a x).tape = v.tape := by
  unfold World.setCell onT
  dsimp only
  split <;> exact ⟨rfl, rfl, rfl⟩
theorem onT_freeze (v : World) (T : Tape) (D : Nat) (a : Addr) (n : Nat) : (onT v T D).freeze a n = onT (v.freeze a n) T D ∧ (v.freeze a n).drawn = v.drawn ∧ (v.freeze a n).tape = v.tape := by
  unfold World.freeze onT
  dsimp only
  repeat' split
  all_goals exact ⟨rfl, rfl, rfl⟩
section
variable {P : Program} {α β : Type} {RR : Rn → α → β → Prop}
theorem TR.ord : ∀ (x : Sem α) (y : Sem β) (ρ : Rn) (v w : World) (es : Array Event) (h : Halt) (v1 : World),
    TR P RR ρ x y → WR ρ v w → (x.runT P v es).1 = .halt h v1 → Ord h := by
  intro x
  induction x with
  | pure a0 => intro y ρ v w es h v1 g hw hr; cases hr
  | load m ad k ih =>
    intro y ρ v w es h v1 g hw hr
    obtain ⟨rfl, a', k', rfl, r, q⟩ := g
    simp only [Sem.runT] at hr
    split at hr
    · rename_i x hx
      obtain ⟨x', hx', rx⟩ := hw.cell r hx
      exact ih x _ ρ v w _ h v1 (q ρ x x' (Rn.le.refl _) rx) hw hr
    · obtain ⟨e, he, oe⟩ := farLoad_ord hw P ad (Mode.plain == Mode.atomic)
      rw [he] at hr
      cases hr
      exact oe
  | store m ad x k ih =>
    intro y ρ v w es h v1 g hw hr
    obtain ⟨rfl, a', x', k', rfl, r, rx, q⟩ := g
    by_cases fl : Flat x
    · rw [store_runT _ _ _ fl] at hr
      split at hr
      · split at hr
        · cases hr; exact True.intro
        · exact ih _ ρ _ _ _ h v1 (q ρ (Rn.le.refl _)) (hw.set r rx) hr
      · obtain ⟨e, he, oe⟩ := farStore_ord hw P ad x (Mode.plain == Mode.atomic)
        rw [he] at hr
        cases hr
        exact oe
    · cases x <;> first | exact (fl trivial).elim | (cases hr; exact True.intro)
  | new o k ih =>
    intro y ρ v w es h v1 g hw hr
    obtain ⟨o', k', rfl, r, q⟩ := g
    simp only [Sem.runT] at hr
    exact ih _ _ _ _ _ _ h v1 (q hw.nx v.heap.size w.heap.size hw.le_nx (.inr ⟨rfl, rfl⟩) (.inr rfl)) (hw.new r) hr
  | shape r k ih =>
    intro y ρ v w es h v1 g hw hr
    rcases g with g | ⟨r', k', rfl, rr, q, q2⟩
    · obtain ⟨e, v2, he, oe⟩ := Dead.halts P _ v es g
      rw [he] at hr
      cases hr
      exact oe
    simp only [Sem.runT] at hr
    rcases hw.rng _ _ rr with ⟨c, e, fr, c', fr', e1, e2, e3, e4⟩ | ⟨n, n', l, e1, e2, _⟩
    rotate_left
    · have s1 : v.shape? r = none := by unfold World.shape?; rw [e1]
      rw [s1] at hr
      exact ih _ _ ρ v w _ h v1 (q2 ρ (Rn.le.refl _)) hw hr
    have s1 : v.shape? r = some (e, c.size) := by unfold World.shape?; rw [e1]
    rw [s1] at hr
    exact ih _ _ ρ v w _ h v1 (q ρ e c.size c'.size (Rn.le.refl _) e3.1 (fun o => by
      rcases e4 with ⟨_, _, e5⟩ | ⟨no, _⟩
      · exact e5
      · exact (no o).elim)) hw hr
  | freeze ad n k ih =>
    intro y ρ v w es h v1 g hw hr
    obtain ⟨a', k', rfl, r, o, q⟩ := g
    simp only [Sem.runT] at hr
    exact ih _ ρ _ _ _ h v1 (q ρ (Rn.le.refl _)) (hw.ice r n) hr
  | frozen ad k ih =>
    intro y ρ v w es h v1 g hw hr
    obtain ⟨a', k', rfl, q⟩ := g
    simp only [Sem.runT] at hr
    exact ih _ _ ρ v w _ h v1 (q ρ _ (w.frozen? a') (Rn.le.refl _)) hw hr
  | getObj r k ih =>
    intro y ρ v w es h v1 g hw hr
    rcases hw.only r with o | ⟨c, e1, fr, o⟩ | ⟨n, l, oo, o⟩
    · simp only [Sem.runT] at hr
      rw [o] at hr
      cases hr
      exact True.intro
    · simp only [Sem.runT] at hr
      rw [o] at hr
      cases hr
      exact True.intro
    · simp only [Sem.runT] at hr
      rw [o] at hr
      rcases g with g | ⟨r', k', rfl, rr, q⟩
      · obtain ⟨e, v2, he, oe⟩ := Dead.halts P _ v (es.push ⟨.obj r, false, (Obj.number n l).isChan⟩) (g n l)
        rw [he] at hr
        cases hr
        exact oe
      · rcases hw.rng _ _ rr with ⟨c, e, fr, c', fr', e1, _⟩ | ⟨m, m', l', e1, e2, e3, _⟩
        · rw [e1] at o
          cases o
        · rw [e1] at o
          cases o
          exact ih _ _ ρ v w _ h v1 (q ρ n m' l (Rn.le.refl _) e3) hw hr
  | setObj r o k ih => intro y ρ v w es h v1 g hw hr; exact g.elim
  | choose qn k ih =>
    intro y ρ v w es h v1 g hw hr
    obtain ⟨k', rfl, q⟩ := g
    simp only [Sem.runT] at hr
    split at hr
    · exact ih _ _ ρ v w _ h v1 (q ρ 0 (Rn.le.refl _)) hw hr
    · exact ih _ _ ρ _ _ _ h v1 (q ρ _ (Rn.le.refl _)) hw.draw hr
  | sys s k ih => intro y ρ v w es h v1 g hw hr; exact g.elim
  | program k ih =>
    intro y ρ v w es h v1 g hw hr
    rcases g with g | ⟨k', rfl, q⟩
    · simp only [Sem.runT] at hr
      obtain ⟨e, v2, he, oe⟩ := Dead.halts P (k P) v es g
      rw [he] at hr
      cases hr
      exact oe
    simp only [Sem.runT] at hr
    exact ih _ _ ρ v w _ h v1 (q ρ (Rn.le.refl _)) hw hr
  | mark m k ih =>
    intro y ρ v w es h v1 g hw hr
    rcases g with g | ⟨rfl, k', rfl, q⟩
    · obtain ⟨e, v2, he, oe⟩ := Dead.halts P (.mark m k) v es g
      rw [he] at hr
      cases hr
      exact oe
    simp only [Sem.runT] at hr
    exact ih _ ρ v w _ h v1 (q ρ (Rn.le.refl _)) hw hr
  | halt hh =>
    intro y ρ v w es h v1 g hw hr
    cases hr
    exact g
/-- what a run that comes to an end takes from the tape -/
def Took (v v1 : World) : Prop := v.drawn ≤ v1.drawn ∧ v1.tape = v.tape
/-- a tape that says the same where the run draws -/
def Alike (v v1 : World) (T : Tape) (D : Nat) : Prop := ∀ j q, v.drawn + j < v1.drawn → T (D + j) q = v.tape (v.drawn + j) q
theorem Took.refl (v : World) : Took v v := ⟨Nat.le_refl _, rfl⟩
theorem onT_at (v : World) (T : Tape) (D : Nat) : onT v T (D + (v.drawn - v.drawn)) = onT v T D := by rw [Nat.sub_self, Nat.add_zero]
theorem TR.on : ∀ (x : Sem α) (y : Sem β) (ρ : Rn) (v w : World) (es : Array Event) (a : α) (v1 : World) (es1 : Array Event),
    TR P RR ρ x y → WR ρ v w → x.runT P v es = (.ok a v1, es1) → Took v v1 ∧ ∀ T D, Alike v v1 T D → x.runT P (onT v T D) es = (.ok a (onT v1 T (D + (v1.drawn - v.drawn))), es1) := by
  intro x
  induction x with
  | pure a0 =>
    intro y ρ v w es a v1 es1 g hw hr
    cases hr
    exact ⟨Took.refl _, fun T D _ => by rw [onT_at]; rfl⟩
  | load m ad k ih =>
    intro y ρ v w es a v1 es1 g hw hr
    obtain ⟨rfl, a', k', rfl, r, q⟩ := g
    simp only [Sem.runT] at hr ⊢
    cases hx : v.cell? ad with
    | some x =>
      rw [hx] at hr
      obtain ⟨x', hx', rx⟩ := hw.cell r hx
      obtain ⟨h1, h2⟩ := ih x _ ρ v w _ a v1 es1 (q ρ x x' (Rn.le.refl _) rx) hw hr
      refine ⟨h1, fun T D hT => ?_⟩
      rw [show (onT v T D).cell? ad = v.cell? ad from rfl, hx]
      exact h2 T D hT
    | none =>
      rw [hx] at hr
      obtain ⟨e, he, oe⟩ := farLoad_ord hw P ad (Mode.plain == Mode.atomic)
      rw [he] at hr
      cases hr
  | store m ad x k ih =>
    intro y ρ v w es a v1 es1 g hw hr
    obtain ⟨rfl, a', x', k', rfl, r, rx, q⟩ := g
    have fl := store_flat (by rw [hr])
    rw [store_runT _ _ _ fl] at hr
    cases hx : v.cell? ad with
    | some x0 =>
      rw [hx] at hr
      dsimp only at hr
      split at hr
      · cases hr
      · rename_i hf
        obtain ⟨h1, h2⟩ := ih _ ρ _ _ _ a v1 es1 (q ρ (Rn.le.refl _)) (hw.set r rx) hr
        have hd := onT_set v v.tape 0 ad x
        refine ⟨⟨hd.2.1 ▸ h1.1, h1.2.trans hd.2.2⟩, fun T D hT => ?_⟩
        rw [store_runT _ _ _ fl, show (onT v T D).cell? ad = v.cell? ad from rfl, hx]
        dsimp only
        rw [show (onT v T D).frozen? ad = v.frozen? ad from rfl, if_neg hf, (onT_set v T D ad x).1]
        have := h2 T D (fun j q hj => by rw [hd.2.1] at hj ⊢; rw [hd.2.2]; exact hT j q hj)
        rw [this, hd.2.1]
    | none =>
      rw [hx] at hr
      obtain ⟨e, he, oe⟩ := farStore_ord hw P ad x (Mode.plain == Mode.atomic)
      dsimp only at hr
      rw [he] at hr
      cases hr
  | new o k ih =>
    intro y ρ v w es a v1 es1 g hw hr
    obtain ⟨o', k', rfl, r, q⟩ := g
    simp only [Sem.runT] at hr ⊢
    obtain ⟨h1, h2⟩ := ih _ _ _ _ _ _ a v1 es1 (q hw.nx v.heap.size w.heap.size hw.le_nx (.inr ⟨rfl, rfl⟩) (.inr rfl)) (hw.new r) hr
    exact ⟨h1, fun T D hT => h2 T D hT⟩
  | shape r k ih =>
    intro y ρ v w es a v1 es1 g hw hr
    rcases g with g | ⟨r', k', rfl, rr, q, q2⟩
    · exact (Dead.not P _ _ _ _ _ g (by rw [hr])).elim
    simp only [Sem.runT] at hr ⊢
    rcases hw.rng _ _ rr with ⟨c, e, fr, c', fr', e1, e2, e3, e4⟩ | ⟨n, n', l, e1, e2, _⟩
    rotate_left
    · have s1 : v.shape? r = none := by unfold World.shape?; rw [e1]
      rw [s1] at hr
      obtain ⟨h1, h2⟩ := ih _ _ ρ v w _ a v1 es1 (q2 ρ (Rn.le.refl _)) hw hr
      refine ⟨h1, fun T D hT => ?_⟩
      rw [show (onT v T D).shape? r = v.shape? r from rfl, s1]
      exact h2 T D hT
    have s1 : v.shape? r = some (e, c.size) := by unfold World.shape?; rw [e1]
    rw [s1] at hr
    obtain ⟨h1, h2⟩ := ih _ _ ρ v w _ a v1 es1 (q ρ e c.size c'.size (Rn.le.refl _) e3.1 (fun o => by
      rcases e4 with ⟨_, _, e5⟩ | ⟨no, _⟩
      · exact e5
      · exact (no o).elim)) hw hr
    refine ⟨h1, fun T D hT => ?_⟩
    rw [show (onT v T D).shape? r = v.shape? r from rfl, s1]
    exact h2 T D hT
  | freeze ad n k ih =>
    intro y ρ v w es a v1 es1 g hw hr
    obtain ⟨a', k', rfl, r, o, q⟩ := g
    simp only [Sem.runT] at hr ⊢
    obtain ⟨h1, h2⟩ := ih _ ρ _ _ _ a v1 es1 (q ρ (Rn.le.refl _)) (hw.ice r n) hr
    have hd := onT_freeze v v.tape 0 ad n
    refine ⟨⟨hd.2.1 ▸ h1.1, h1.2.trans hd.2.2⟩, fun T D hT => ?_⟩
    rw [(onT_freeze v T D ad n).1]
    have := h2 T D (fun j q hj => by rw [hd.2.1] at hj ⊢; rw [hd.2.2]; exact hT j q hj)
    rw [this, hd.2.1]
  | frozen ad k ih =>
    intro y ρ v w es a v1 es1 g hw hr
    obtain ⟨a', k', rfl, q⟩ := g
    simp only [Sem.runT] at hr ⊢
    obtain ⟨h1, h2⟩ := ih _ _ ρ v w _ a v1 es1 (q ρ _ (w.frozen? a') (Rn.le.refl _)) hw hr
    exact ⟨h1, fun T D hT => h2 T D hT⟩
  | getObj r k ih =>
    intro y ρ v w es a v1 es1 g hw hr
    simp only [Sem.runT] at hr ⊢
    rcases hw.only r with o | ⟨c, e1, fr, o⟩ | ⟨n, l, oo, o⟩
    · rw [o] at hr
      cases hr
    · rw [o] at hr
      cases hr
    · rw [o] at hr
      rcases g with g | ⟨r', k', rfl, rr, q⟩
      · exact (Dead.not P _ _ _ _ _ (g n l) (congrArg Prod.fst hr)).elim
      · rcases hw.rng _ _ rr with ⟨c, e, fr, c', fr', e1, _⟩ | ⟨m, m', l', e1, e2, e3, _⟩
        · rw [e1] at o
          cases o
        · rw [e1] at o
          cases o
          obtain ⟨h1, h2⟩ := ih _ _ ρ v w _ a v1 es1 (q ρ n m' l (Rn.le.refl _) e3) hw hr
          refine ⟨h1, fun T D hT => ?_⟩
          rw [show (onT v T D).heap[r]? = v.heap[r]? from rfl, e1]
          exact h2 T D hT
  | setObj r o k ih => intro y ρ v w es a v1 es1 g hw hr; exact g.elim
  | choose qn k ih =>
    intro y ρ v w es a v1 es1 g hw hr
    obtain ⟨k', rfl, q⟩ := g
    simp only [Sem.runT] at hr ⊢
    split at hr
    · rename_i hf
      obtain ⟨h1, h2⟩ := ih _ _ ρ v w _ a v1 es1 (q ρ 0 (Rn.le.refl _)) hw hr
      exact ⟨h1, fun T D hT => by rw [if_pos hf]; exact h2 T D hT⟩
    · rename_i hf
      obtain ⟨h1, h2⟩ := ih _ _ ρ _ _ _ a v1 es1 (q ρ _ (Rn.le.refl _)) hw.draw hr
      have h3 : v.drawn + 1 ≤ v1.drawn := h1.1
      refine ⟨⟨by omega, h1.2⟩, fun T D hT => ?_⟩
      rw [if_neg hf]
      have e0 : T D qn = v.tape v.drawn qn := hT 0 qn (by omega)
      have := h2 T (D + 1) (fun j q hj => by
        have hj : v.drawn + 1 + j < v1.drawn := hj
        have := hT (1 + j) q (by omega)
        rw [← Nat.add_assoc, ← Nat.add_assoc] at this
        exact this)
      have e3 : D + 1 + (v1.drawn - (v.drawn + 1)) = D + (v1.drawn - v.drawn) := by omega
      have e4 : D + 1 + (v1.drawn - ({ v with drawn := v.drawn + 1 } : World).drawn) = D + (v1.drawn - v.drawn) := e3
      rw [e4] at this
      show Sem.runT P (k (qn.cut (T D qn))) _ es = _
      rw [e0]
      exact this
  | sys s k ih => intro y ρ v w es a v1 es1 g hw hr; exact g.elim
  | program k ih =>
    intro y ρ v w es a v1 es1 g hw hr
    rcases g with g | ⟨k', rfl, q⟩
    · simp only [Sem.runT] at hr
      exact (Dead.not P (k P) v es a v1 g (congrArg Prod.fst hr)).elim
    simp only [Sem.runT] at hr ⊢
    exact ih _ _ ρ v w _ a v1 es1 (q ρ (Rn.le.refl _)) hw hr
  | mark m k ih =>
    intro y ρ v w es a v1 es1 g hw hr
    rcases g with g | ⟨rfl, k', rfl, q⟩
    · exact (Dead.not P (.mark m k) v es a v1 g (congrArg Prod.fst hr)).elim
    simp only [Sem.runT] at hr ⊢
    exact ih _ ρ v w _ a v1 es1 (q ρ (Rn.le.refl _)) hw hr
  | halt hh =>
    intro y ρ v w es a v1 es1 g hw hr
    cases hr
end
end Go.Proofs.YtgjhmbbbkkidlaaGreatDoor.sim
