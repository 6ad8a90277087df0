/-
  Two runs side by side: the frames, one step of the machine, the worker in the company and alone.
  Conditions: none beyond those that each theorem names.
-/
import Derived.Laws.Sem
import Derived.Conc.Own
import Derived.Test.YtgjhmbbbkkidlaaGreatDoorJb
/-
  Two runs side by side: one operation of those that the workers' code holds.
  Conditions: none; no program in sight.
-/
namespace Go.Proofs.YtgjhmbbbkkidlaaGreatDoor.sim
open Go
section
variable {P : Program} {ρ : Rn}
theorem TR.mapSame {ε κ : Type} {f : ε → Sem κ} : ∀ (l : List ε) {ρ : Rn}, (∀ e ∈ l, ∀ ρ', Rn.le ρ ρ' → TR P (fun _ a b => a = b) ρ' (f e) (f e)) → TR P (fun _ a b => a = b) ρ (l.mapM f) (l.mapM f) := by
  intro l
  induction l with
  | nil => intro ρ h; exact TR.ret rfl
  | cons e l ih =>
    intro ρ h
    rw [List.mapM_cons]
    refine TR.b (h e List.mem_cons_self ρ (Rn.le.refl _)) fun ρ1 a b l1 r => ?_
    refine TR.b (ih fun e' he ρ' l2 => h e' (List.mem_cons_of_mem _ he) ρ' (l1.trans l2)) fun ρ2 as bs l2 rs => ?_
    subst r rs
    exact TR.ret rfl
theorem TR.buildI (t : TypeId) (hz : Zt P t) {ps ps' : Array (Nat × Value)} (h : PaR ρ ps.toList ps'.toList) : TR P VR ρ (Instr.build t ps) (Instr.build t ps') := by
  unfold Instr.build
  refine TR.zero t hz fun ρ1 z l1 hzz => TR.und t fun ρ2 d l2 e => ?_
  cases d <;> first | exact True.intro | skip
  · rename_i n elem
    dsimp only
    refine TR.size elem fun ρ3 k l3 => ?_
    rcases fillR (place := fun i => some (i * k, k)) _ _ _ _ (h.mono ((l1.trans l2).trans l3)) (hzz ρ3).cells with ⟨e1, e2⟩ | ⟨d, d', e1, e2, r⟩
    · rw [e1, e2]
      exact True.intro
    · rw [e1, e2]
      exact TR.ret (.agg r.1 r.2)
  · rename_i fields
    dsimp only
    refine TR.b (RR := fun _ a b => a = b) ?_ fun ρ3 a b l3 e3 => ?_
    · rw [Array.mapM_eq_mapM_toList, map_eq_pure_bind]
      refine TR.b (TR.mapSame _ fun f _ ρ3 l3 => ?_) fun ρ4 a b l4 e4 => by subst e4; exact TR.ret rfl
      exact TR.size _ fun ρ4 n l4 => TR.ret rfl
    · subst e3
      rcases fillR (place := (a[·]?)) _ _ _ _ (h.mono ((l1.trans l2).trans l3)) (hzz ρ3).cells with ⟨e1, e2⟩ | ⟨d, d', e1, e2, r⟩
      · rw [e1, e2]
        exact True.intro
      · rw [e1, e2]
        exact TR.ret (.agg r.1 r.2)
/-- a conversion between integers, or from text to bytes -/
def ConvOk (P : Program) (s d : TypeId) : Prop :=
  ((∃ k, P.underlying d = some (.int k)) ∧ ∃ k, P.underlying s = some (.int k)) ∨ (P.underlying s = some .string ∧ ∃ e, P.underlying d = some (.slice e) ∧ P.underlying e = some (.int .u8))
def CallOk (P : Program) (c : Call) : Prop :=
  (∀ x ∈ c.args, GoodX P x) ∧ match c.callee with
  | .builtin b => b = .len ∨ b = .copy ∨ (b = .append ∧ NoInt P c.argTypes[1]? ∧ ∀ t, c.argTypes[0]? = some t → Zsl P t)
  | .invoke x name => GoodX P x ∧ MethOk P name
  | .value (.func f) => HasBody P f
  | _ => False
/-- the operations that this law covers -/
def OpOk (P : Program) (o : Op) : Prop := match o with
  | .move x | .assign x => GoodX P x
  | .pick c a b => GoodX P c ∧ GoodX P a ∧ GoodX P b
  | .alloc t => Zt P t
  | .box _ x => GoodX P x
  | .buildSlice t _ ps => Zsl P t ∧ ∀ p ∈ ps.toList, GoodX P p.2
  | .build t ps => Zt P t ∧ ∀ p ∈ ps.toList, GoodX P p.2
  | .load _ a => GoodX P a
  | .store _ a x => GoodX P a ∧ GoodX P x
  | .nilCheck x => GoodX P x
  | .binOp op t x y _ => GoodX P x ∧ GoodX P y ∧ (Eqs op → EqOk P t)
  | .unOp _ _ x => GoodX P x
  | .convert s d x => GoodX P x ∧ ConvOk P s d
  | .makeInterface _ x => GoodX P x
  | .makeFunc _ xs ys => (∀ x ∈ xs, GoodX P x) ∧ ∀ y ∈ ys, GoodX P y
  | .makeSlice t l c => GoodX P l ∧ GoodX P c ∧ Zsl P t
  | .slice _ x a b c => GoodX P x ∧ (∀ y, a = some y → GoodX P y) ∧ (∀ y, b = some y → GoodX P y) ∧ ∀ y, c = some y → GoodX P y
  | .fieldAddr _ x _ => GoodX P x
  | .indexAddr _ x i => GoodX P x ∧ GoodX P i
  | .extract x _ => GoodX P x
  | .typeAssert x _ a ok => GoodX P x ∧ ok = true ∧ Zt P a
  | .call c => CallOk P c
  | .send c x => GoodX P c ∧ GoodX P x
  | _ => False
theorem OvR.ofMap {ev ev' : Operand → Value} {a : Option Operand} (h : ∀ y, a = some y → VR ρ (ev y) (ev' y)) : OvR ρ (a.map ev) (a.map ev') := by
  cases a with
  | none => trivial
  | some x => exact h x rfl
theorem TR.execOp (hG : P.globals.size ≤ ρ.g0) (o : Oper) (ho : OpOk P o.op) (ev ev' : Operand → Value) (hev : ∀ x, GoodX P x → VR ρ (ev x) (ev' x)) (hfn : ∀ f, ev (.func f) = .func (.func f) #[] #[] ∧ ev' (.func f) = .func (.func f) #[] #[]) :
    TR P (NxR P) ρ (execOp ev o) (execOp ev' o) := by
  cases e : o.op with
  | nilCheck x =>
    rw [e] at ho
    exact TR.nilCheck (hev x ho) ev ev' x rfl rfl o e
  | buildSlice t n ps =>
    rw [e] at ho
    unfold Go.execOp
    rw [e]
    refine TR.val (TR.buildSliceI _ ho.1 _ ?_)
    rw [Array.toList_map, Array.toList_map]
    exact PaR.of _ fun p hp => hev _ (ho.2 p hp)
  | build t ps =>
    rw [e] at ho
    unfold Go.execOp
    rw [e]
    refine TR.val (TR.buildI _ ho.1 ?_)
    rw [Array.toList_map, Array.toList_map]
    exact PaR.of _ fun p hp => hev _ (ho.2 p hp)
  | binOp op t x y ty =>
    rw [e] at ho
    unfold Go.execOp
    rw [e]
    exact TR.val (TR.b (TR.eqGuard op x y ho.2.2 (hev _ ho.1) (hev _ ho.2.1)) fun ρ1 _ _ l1 _ => TR.binOp op ho.2.2 (hG1 l1 hG) ((hev _ ho.1).mono l1) ((hev _ ho.2.1).mono l1))
  | convert s d x =>
    rw [e] at ho
    unfold Go.execOp
    rw [e]
    rcases ho with ⟨hx, ⟨h1, h2⟩ | ⟨h1, el, h2, h3⟩⟩
    · exact TR.val (TR.convI s d (hev _ hx) h1 h2)
    · exact TR.val (TR.bytesI s d el (hev _ hx) h2 h3 h1)
  | makeFunc fn xs ys =>
    rw [e] at ho
    unfold Go.execOp
    rw [e]
    have q1 : ArR ρ (xs.map ev) (xs.map ev') := ArR.ofMap fun x hx => hev _ (ho.1 x hx)
    have q2 : ArR ρ (ys.map ev) (ys.map ev') := ArR.ofMap fun x hx => hev _ (ho.2 x hx)
    exact TR.ret (.value (.func q1.1 q1.2 q2.1 q2.2))
  | typeAssert x t a ok =>
    rw [e] at ho
    unfold Go.execOp
    rw [e]
    obtain ⟨hx, rfl, hz⟩ := ho
    exact TR.val (TR.assertI (hev _ hx) _ _ hz)
  | send c x =>
    rw [e] at ho
    unfold Go.execOp
    rw [e]
    exact TR.ret (.send ⟨hev _ ho.1, hev _ ho.2, .tuple rfl fun i v v' h => by simp at h⟩)
  | call c =>
    rw [e] at ho
    unfold Go.execOp
    rw [e]
    obtain ⟨ha, hc⟩ := ho
    have q : ArR ρ (c.args.map ev) (c.args.map ev') := ArR.ofMap fun x hx => hev _ (ha x hx)
    dsimp only
    unfold Go.resolve
    cases ec : c.callee with
    | builtin b =>
      rw [ec] at hc
      rcases hc with rfl | rfl | ⟨rfl, hn, hz⟩
      · exact TR.val (TR.lenI _ _ q)
      · exact TR.val (TR.copyI _ _ q)
      · exact TR.val (TR.appendI _ hz hn _ q)
    | invoke x name =>
      rw [ec] at hc
      have qx := hev x hc.1
      have q2 : ArR ρ (#[ev x] ++ c.args.map ev) (#[ev' x] ++ c.args.map ev') := ArR.append ((ArR.nil _).push qx) q
      have z : (#[ev x] ++ c.args.map ev)[0]? = some (ev x) := by
        rw [Array.getElem?_append]
        exact if_pos (Nat.zero_lt_one)
      have z' : (#[ev' x] ++ c.args.map ev')[0]? = some (ev' x) := by
        rw [Array.getElem?_append]
        exact if_pos (Nat.zero_lt_one)
      show TR P (NxR P) ρ (Go.invoke (.fn (.method name) #[]) (#[ev x] ++ c.args.map ev)) (Go.invoke (.fn (.method name) #[]) (#[ev' x] ++ c.args.map ev'))
      unfold Go.invoke
      dsimp only
      rw [z, z']
      dsimp only
      rw [← q2.1]
      exact TR.callMethod hc.2 qx (q2.extract _ _)
    | value f =>
      rw [ec] at hc
      cases f with
      | func f =>
        show TR P (NxR P) ρ (Deferred.ofValue (ev (.func f)) (c.args.map ev) >>= fun d => Go.invoke d.target d.args) (Deferred.ofValue (ev' (.func f)) (c.args.map ev') >>= fun d => Go.invoke d.target d.args)
        rw [(hfn f).1, (hfn f).2]
        exact TR.callFunc hc (((ArR.nil _).append q).append (ArR.nil _))
      | _ => exact hc.elim
  | _ =>
    rw [e] at ho
    unfold Go.execOp
    rw [e]
    first
      | exact ho.elim
      | exact TR.ret (.value (hev _ ho))
      | exact TR.bool (hev _ ho.1) fun ρ1 b l1 => by
          cases b
          · exact TR.ret (.value ((hev _ ho.2.2).mono l1))
          · exact TR.ret (.value ((hev _ ho.2.1).mono l1))
      | exact TR.val (TR.allocI _ ho)
      | exact TR.val (TR.boxI _ (hev _ ho))
      | exact TR.val (TR.loadI _ (hev _ ho))
      | exact TR.unit (TR.storeI _ (hev _ ho.1) (hev _ ho.2))
      | exact TR.val (TR.unary _ (hev _ ho))
      | exact TR.val (TR.ifaceI _ (hev _ ho))
      | exact TR.val (TR.makeSliceI _ ho.2.2 (hev _ ho.1) (hev _ ho.2.1))
      | exact TR.val (TR.sliceI _ (hev _ ho.1) (OvR.ofMap fun y q => hev _ (ho.2.1 y q)) (OvR.ofMap fun y q => hev _ (ho.2.2.1 y q)) (OvR.ofMap fun y q => hev _ (ho.2.2.2 y q)))
      | exact TR.val (TR.fieldI _ (hev _ ho) _)
      | exact TR.val (TR.indexI _ (hev _ ho.1) (hev _ ho.2))
      | exact TR.val (TR.extractI (hev _ ho) _)
end
end Go.Proofs.YtgjhmbbbkkidlaaGreatDoor.sim
/-
  Two runs side by side: frames.
  Conditions: none; no program in sight.
-/
namespace Go.Proofs.YtgjhmbbbkkidlaaGreatDoor.sim
open Go
/-- two frames that agree up to the blocks' numbers; neither unwinds a panic, defers, or rounds a loop over a function -/
structure FrR (ρ : Rn) (fr fr' : Frame) : Prop where
  fn : fr'.fn = fr.fn
  mode : fr'.mode = fr.mode
  kind : fr'.kind = fr.kind
  round : fr.roundOf = none
  round' : fr'.roundOf = none
  defers : fr.defers = []
  defers' : fr'.defers = []
  tmps : ArR ρ fr.tmps fr'.tmps
theorem FrR.mono {ρ ρ' : Rn} (h : Rn.le ρ ρ') {fr fr' : Frame} (g : FrR ρ fr fr') : FrR ρ' fr fr' :=
  ⟨g.fn, g.mode, g.kind, g.round, g.round', g.defers, g.defers', g.tmps.mono h⟩
theorem undefR (ρ : Rn) : VR ρ undef undef := .tuple rfl fun i v v' h => by simp at h
theorem ArR.getD {ρ : Rn} {x x' : Array Value} (h : ArR ρ x x') (i : Nat) : VR ρ (x.getD i undef) (x'.getD i undef) := by
  rw [Array.getD_eq_getD_getElem?, Array.getD_eq_getD_getElem?]
  cases e : x[i]? with
  | none => rw [h.none e]; exact undefR ρ
  | some v =>
    obtain ⟨v', e', r⟩ := h.get e
    rw [e']
    exact r
theorem FrR.eval {P : Program} {ρ : Rn} {fr fr' : Frame} (h : FrR ρ fr fr') (hg : ∀ g, g < P.globals.size → ρ.rel g g) (x : Operand) (hx : GoodX P x) : VR ρ (fr.eval x) (fr'.eval x) := by
  cases x with
  | tmp t => exact h.tmps.getD t
  | const v => exact hx ρ
  | global g => exact .ptr ⟨hg g hx, rfl, rfl⟩
  | func f => exact .func rfl (fun i v v' h => by simp at h) rfl (fun i v v' h => by simp at h)
theorem FrR.finish {ρ : Rn} {fr fr' : Frame} (h : FrR ρ fr fr') {v v' : Value} (r : VR ρ v v') (ops : Array Oper) (i : Nat) (is : List Nat) (k k' : List Item) (e : fr.todo = .inRegion ops (i :: is) :: k) (e' : fr'.todo = .inRegion ops (i :: is) :: k') : FrR ρ (fr.finish v) (fr'.finish v') := by
  unfold Frame.finish
  rw [e, e']
  dsimp only
  refine ⟨h.fn, h.mode, h.kind, h.round, h.round', h.defers, h.defers', ?_⟩
  cases (ops[i]?).bind (·.dst) with
  | none => exact h.tmps
  | some d => exact h.tmps.set d r
theorem FrR.enter {ρ : Rn} (P : Program) (f : FuncId) {x x' : Array Value} (h : ArR ρ x x') (k : CallKind) : FrR ρ (Frame.enter P f x k) (Frame.enter P f x' k) := by
  refine ⟨rfl, rfl, rfl, rfl, rfl, rfl, rfl, ?_⟩
  show ArR ρ (x ++ Array.replicate _ undef) (x' ++ Array.replicate _ undef)
  rw [← h.1]
  exact h.append (ArR.rep _ (undefR ρ) _)
theorem FrR.yielded {ρ : Rn} {fr fr' : Frame} (h : FrR ρ fr fr') (ops : Array Oper) (j : Nat) : yielded ops fr'.tmps j = yielded ops fr.tmps j := by
  unfold Go.yielded
  cases (ops[j]?).bind (·.dst) with
  | none => rfl
  | some d =>
    show (match fr'.tmps[d]? with | some (.bool b) => some b | _ => none) = (match fr.tmps[d]? with | some (.bool b) => some b | _ => none)
    cases e : fr.tmps[d]? with
    | none => rw [h.tmps.none e]
    | some v =>
      obtain ⟨v', e', r⟩ := h.tmps.get e
      rw [e']
      cases r with
      | junk j => cases v' <;> first | exact j.elim | rfl
      | _ => rfl
end Go.Proofs.YtgjhmbbbkkidlaaGreatDoor.sim
/-
  Two runs side by side: a frame's results.
  Conditions: none; no program in sight.
-/
namespace Go.Proofs.YtgjhmbbbkkidlaaGreatDoor.sim
open Go
section
variable {P : Program} {ρ : Rn}
theorem TR.mapL {ε : Type} {f g : ε → Sem Value} : ∀ (l : List ε) {ρ : Rn}, (∀ e ∈ l, ∀ ρ', Rn.le ρ ρ' → TR P VR ρ' (f e) (g e)) → TR P LiR ρ (l.mapM f) (l.mapM g) := by
  intro l
  induction l with
  | nil => intro ρ h; exact TR.ret .nil
  | cons e l ih =>
    intro ρ h
    rw [List.mapM_cons, List.mapM_cons]
    refine TR.b (h e List.mem_cons_self ρ (Rn.le.refl _)) fun ρ1 a b l1 r => ?_
    refine TR.b (ih fun e' he ρ' l2 => h e' (List.mem_cons_of_mem _ he) ρ' (l1.trans l2)) fun ρ2 as bs l2 rs => ?_
    exact TR.ret (.cons (r.mono l2) rs)
theorem LiR.arr {l l' : List Value} (h : LiR ρ l l') : ArR ρ l.toArray l'.toArray := by
  induction h with
  | nil => exact ⟨rfl, fun i v v' h => by simp at h⟩
  | cons r _ ih =>
    refine ⟨by simpa using ih.1, fun i v v' h1 h2 => ?_⟩
    cases i with
    | zero =>
      simp at h1 h2
      subst h1 h2
      exact r
    | succ i => exact ih.2 i v v' (by simpa using h1) (by simpa using h2)
theorem TR.results (fn : Func) {x x' : Array Value} (h : ArR ρ x x') : TR P VR ρ (results fn x) (results fn x') := by
  unfold Go.results
  rw [Array.mapM_eq_mapM_toList, Array.mapM_eq_mapM_toList]
  refine TR.b (RR := ArR) ?_ fun ρ1 a b l r => ?_
  · rw [map_eq_pure_bind, map_eq_pure_bind]
    refine TR.b (TR.mapL _ fun e he ρ1 l1 => ?_) fun ρ1 as bs l rs => TR.ret rs.arr
    cases e with
    | tmp t => exact TR.ret ((h.mono l1).getD t)
    | cell a t => exact TR.addr ((h.mono l1).getD a) fun u u' ru => TR.loadVar t ru
  · obtain ⟨as⟩ := a
    obtain ⟨bs⟩ := b
    have hs : as.length = bs.length := r.1
    match as, bs, hs, r with
    | [], [], _, r => exact TR.ret (.tuple r.1 r.2)
    | [v], [v'], _, r => exact TR.ret (r.2 0 v v' rfl rfl)
    | _ :: _ :: _, _ :: _ :: _, _, r => exact TR.ret (.tuple r.1 r.2)
end
end Go.Proofs.YtgjhmbbbkkidlaaGreatDoor.sim
/-
  Two runs side by side: one step.
  Conditions: none; no program in sight.
-/
namespace Go.Proofs.YtgjhmbbbkkidlaaGreatDoor.sim
open Go
section
variable {P : Program} {ρ : Rn}
theorem seen_mem (p : Program) (f : FuncId) (es : Array Event) : ∀ e ∈ seen p f es, e ∈ es := by
  unfold seen
  have main : ∀ (l : List Event) (q : Bool) (kept : Array Event) (S : Event → Prop), (∀ e ∈ kept, S e) → (∀ e ∈ l, S e) →
      ∀ e ∈ (l.foldl (fun (x : Bool × Array Event) e => match x with
        | (q, kept) => match e.loc with
          | .mark (.extern f) => ((p.funcs[f]?).any (·.norace), kept)
          | _ => (q, if q && !e.sync then kept else kept.push e)) (q, kept)).2, S e := by
    intro l
    induction l with
    | nil => intro q kept S h _; exact h
    | cons a l ih =>
      intro q kept S h g
      rw [List.foldl_cons]
      have g2 : ∀ e ∈ l, S e := fun e he => g e (List.mem_cons_of_mem _ he)
      have ga : S a := g a List.mem_cons_self
      have hp : ∀ e ∈ (if q && !a.sync then kept else kept.push a), S e := by
        intro e he
        split at he
        · exact h e he
        · rcases Array.mem_push.1 he with he | rfl
          · exact h e he
          · exact ga
      dsimp only
      split
      · exact ih _ _ S h g2
      · exact ih _ _ S hp g2
  intro e he
  dsimp only at he
  rw [← Array.foldl_toList] at he
  exact main es.toList _ #[] (· ∈ es) (fun e he => by simp at he) (fun e he => by simpa using he) e he
end
end Go.Proofs.YtgjhmbbbkkidlaaGreatDoor.sim
/-
  Two runs side by side: what one step may come to, and what never comes back to the walk.
  Conditions: none; no program in sight.
-/
namespace Go.Proofs.YtgjhmbbbkkidlaaGreatDoor.sim
open Go
open Go.Conc (G)
section
variable {P : Program} {ρ : Rn}
/-- the frame below the worker's own in the lone run: behind it nothing goes on -/
def c0 (P : Program) : Frame := { (default : Frame) with fn := P.funcs.size, todo := [.call default false "fmt's door" #[]], mode := .returning, kind := .report }
/-- code that this law covers -/
def OkC (P : Program) : Code → Prop
  | .skip => True
  | .label _ => True
  | .exit _ => True
  | .ret => True
  | .seq a b => OkC P a ∧ OkC P b
  | .cond c t e => GoodX P c ∧ OkC P t ∧ OkC P e
  | .block _ b => OkC P b
  | .loop b => OkC P b
  | .scope b => OkC P b
  | .region _ ops _ => ∀ o ∈ ops, OpOk P o.op
  | _ => False
def OkI (P : Program) : Item → Prop
  | .code c => OkC P c
  | .inBlock _ => True
  | .inLoop b => OkC P b
  | .inScope b => OkC P b
  | .inRegion ops _ => ∀ o ∈ ops, OpOk P o.op
  | _ => False
def spine : Nat → Code → Code
  | n + 1, .seq _ y => spine n y
  | _, c => c
/-- where the other goes on: the letters of the word are counted -/
def cutTail (P : Program) (s : String) : Code := spine s.length (((P.funcs[3]?).bind (·.body)).getD .skip)
/-- code that ends, in the lone run, where the other goes on -/
inductive Cut (P : Program) : Code → Code → Prop
  | here (s : String) : Cut P (.refuse s) (cutTail P s)
  | seq {a x y : Code} : OkC P a → Cut P x y → Cut P (.seq a x) (.seq a y)
inductive TodoR (P : Program) : List Item → List Item → Prop
  | nil : TodoR P [] []
  | cut {x y : Code} : Cut P x y → TodoR P [.code x] [.code y]
  | cons {i : Item} {k k' : List Item} : OkI P i → TodoR P k k' → TodoR P (i :: k) (i :: k')
structure FkR (P : Program) (ρ : Rn) (fr fr' : Frame) : Prop where
  rel : FrR ρ fr fr'
  todo : TodoR P fr.todo fr'.todo
  live : ∀ c, fr.mode ≠ .panicking c
theorem FkR.mono {ρ' : Rn} (h : Rn.le ρ ρ') {fr fr' : Frame} (g : FkR P ρ fr fr') : FkR P ρ' fr fr' := ⟨g.rel.mono h, g.todo, g.live⟩
theorem TodoR.region {ops : Array Oper} {is : List Nat} {k l' : List Item} (h : TodoR P (.inRegion ops is :: k) l') : (∀ o ∈ ops, OpOk P o.op) ∧ ∃ k', l' = .inRegion ops is :: k' ∧ TodoR P k k' := by
  cases h with
  | cons a b => exact ⟨a, _, rfl, b⟩
/-- a frame that waits for a call -/
def Waits (fr : Frame) : Prop := fr.mode = .run ∧ ∃ ops i is k, fr.todo = .inRegion ops (i :: is) :: k
/-- two stacks of frames -/
inductive StR (P : Program) (d0 : List Frame) (ρ : Rn) : Frame → List Frame → Frame → List Frame → Prop
  | base {b b' : Frame} : FkR P ρ b b' → b.kind = .deferred ∨ b.kind = .normal → StR P d0 ρ b [c0 P] b' d0
  | cons {a a' f f' : Frame} {l l' : List Frame} : FkR P ρ a a' → a.kind = .normal → Waits f → StR P d0 ρ f l f' l' → StR P d0 ρ a (f :: l) a' (f' :: l')
theorem StR.mono {d0 : List Frame} {ρ' : Rn} (h : Rn.le ρ ρ') {a a' : Frame} {l l' : List Frame} (g : StR P d0 ρ a l a' l') : StR P d0 ρ' a l a' l' := by
  induction g with
  | base a b => exact .base (a.mono h) b
  | cons a b c _ ih => exact .cons (a.mono h) b c ih
theorem StR.fk {d0 : List Frame} {a a' : Frame} {l l' : List Frame} (g : StR P d0 ρ a l a' l') : FkR P ρ a a' := by
  cases g with
  | base a b => exact a
  | cons a b c d => exact a
theorem StR.ne {d0 : List Frame} {a a' : Frame} {l l' : List Frame} (g : StR P d0 ρ a l a' l') : l ≠ [] := by
  cases g <;> simp
theorem StR.kind {d0 : List Frame} {a a' : Frame} {l l' : List Frame} (g : StR P d0 ρ a l a' l') : a.kind ≠ .early := by
  cases g with
  | base a b => rcases b with b | b <;> rw [b] <;> simp
  | cons a b c d => rw [b]; simp
theorem StR.top {d0 : List Frame} {ρ' : Rn} (h : Rn.le ρ ρ') {a a' b b' : Frame} {l l' : List Frame} (g : StR P d0 ρ a l a' l') (r : FkR P ρ' b b') (hk : b.kind = a.kind) : StR P d0 ρ' b l b' l' := by
  cases g with
  | base x y => exact .base r (hk ▸ y)
  | cons x y z u => exact .cons r (hk.trans y) z (u.mono h)
/-! ### what never comes back -/
def Lost (P : Program) (fr : Frame) (cs : List Frame) (v : World) : Prop :=
  ∀ n fr2 cs2 v2, runN P n (lone fr cs v) = .next (lone fr2 cs2 v2) → cs2 ≠ [] → ∃ c, fr2.mode = .panicking c
theorem lone_inj {fr fr2 : Frame} {cs cs2 : List Frame} {v v2 : World} (h : lone fr cs v = lone fr2 cs2 v2) : fr = fr2 ∧ cs = cs2 ∧ v = v2 := by
  unfold lone at h
  injection h with h1 h2
  simp at h2
  exact ⟨h2.1, h2.2, h1⟩
theorem Lost.zero {fr fr2 : Frame} {cs cs2 : List Frame} {v v2 : World} (h0 : cs = [] ∨ ∃ c, fr.mode = .panicking c) (h : runN P 0 (lone fr cs v) = .next (lone fr2 cs2 v2)) (hn : cs2 ≠ []) : ∃ c, fr2.mode = .panicking c := by
  obtain ⟨rfl, rfl, rfl⟩ := lone_inj (Stepped.next.inj h)
  rcases h0 with h0 | h0
  · exact (hn h0).elim
  · exact h0
theorem Lost.step {fr fr1 : Frame} {cs cs1 : List Frame} {v v1 : World} (h0 : cs = [] ∨ ∃ c, fr.mode = .panicking c) (h : step P (lone fr cs v) = .next (lone fr1 cs1 v1)) (l : Lost P fr1 cs1 v1) : Lost P fr cs v := by
  intro n fr2 cs2 v2 hr hn
  cases n with
  | zero => exact Lost.zero h0 hr hn
  | succ n =>
    simp only [runN, h] at hr
    exact l n fr2 cs2 v2 hr hn
theorem Lost.ended {fr : Frame} {cs : List Frame} {v : World} (h0 : cs = [] ∨ ∃ c, fr.mode = .panicking c) (h : ∃ o w, Go.step P (lone fr cs v) = .ended o w) : Lost P fr cs v := by
  intro n fr2 cs2 v2 hr hn
  cases n with
  | zero => exact Lost.zero h0 hr hn
  | succ n =>
    obtain ⟨o, w, h⟩ := h
    simp only [runN, h] at hr
    cases hr
def AllD (P : Program) : Frame → List Frame → Prop
  | fr, [] => fr.defers = [] ∧ fr.catches P = true
  | fr, c :: cs => fr.defers = [] ∧ AllD P c cs
theorem raise_mode (fr : Frame) (vs : List PanicEntry) : ∃ c, (fr.raise vs).mode = .panicking c := by
  unfold Frame.raise
  split <;> exact ⟨_, rfl⟩
theorem raise_rest (fr : Frame) (vs : List PanicEntry) : (fr.raise vs).defers = fr.defers ∧ (fr.raise vs).catches P = fr.catches P := by
  unfold Frame.raise
  split <;> exact ⟨rfl, rfl⟩
theorem AllD.raise {fr : Frame} {cs : List Frame} (vs : List PanicEntry) (h : AllD P fr cs) : AllD P (fr.raise vs) cs := by
  cases cs with
  | nil => exact ⟨(raise_rest (P := P) fr vs).1.trans h.1, (raise_rest fr vs).2.trans h.2⟩
  | cons c cs => exact ⟨(raise_rest (P := P) fr vs).1.trans h.1, h.2⟩
theorem lost_panic : ∀ (cs : List Frame) (fr : Frame) (v : World), (∃ c, fr.mode = .panicking c) → AllD P fr cs → Lost P fr cs v := by
  intro cs
  induction cs with
  | nil =>
    intro fr v hm ⟨hd, hc⟩
    have hm0 := hm
    obtain ⟨c, hm'⟩ := hm0
    refine Lost.ended (.inr hm) ⟨_, _, step_lone_ended (o := ?_) (w' := ?_) ?_⟩
    rotate_left 2
    · simp only [stepG, hm', unwind, hd, hc, if_true]
      rfl
  | cons c0 cs ih =>
    intro fr v hm ⟨hd, hc⟩
    have hm0 := hm
    obtain ⟨c, hm'⟩ := hm0
    by_cases hcat : fr.catches P = true
    · refine Lost.ended (.inr hm) ⟨_, _, step_lone_ended (o := ?_) (w' := ?_) ?_⟩
      rotate_left 2
      · simp only [stepG, hm', unwind, hd, hcat, if_true]
        rfl
    · refine Lost.step (.inr hm) (step_lone_go (fr' := c0.raise c) (cs' := cs) (w' := v) ?_) (ih _ v (raise_mode c0 c) (hc.raise c))
      simp only [stepG, hm', unwind, hd]
      rw [if_neg hcat]
      rfl
theorem c0_catches : (c0 P).catches P = true := by
  unfold Frame.catches c0
  dsimp only
  rw [Array.getElem?_eq_none (Nat.le_refl _)]
  decide +kernel
theorem StR.allD {d0 : List Frame} {a a' : Frame} {l l' : List Frame} (g : StR P d0 ρ a l a' l') : AllD P a l := by
  induction g with
  | base a b => exact ⟨a.rel.defers, rfl, c0_catches⟩
  | cons a b c _ ih => exact ⟨a.rel.defers, ih⟩
theorem lost_c0 (fr : Frame) (hf : fr.fn = P.funcs.size) (hm : fr.mode = .returning) (hd : fr.defers = []) (hk : fr.kind = .report) (v : World) : Lost P fr [] v := by
  refine Lost.ended (.inl rfl) ⟨.stuck "report: Error or String returned no string" "", v, step_lone_ended ?_⟩
  have h : P.funcs[fr.fn]? = none := by rw [hf]; exact Array.getElem?_eq_none (Nat.le_refl _)
  simp only [stepG, hm, unwind, hd, h, doReturn, hk]
  rfl
/-- a step of the lone run -/
def Tame (P : Program) : GStep → Prop
  | .ended _ _ _ => True
  | .go g v1 _ => ∃ fr cs, g = G fr cs ∧ (((∀ c, fr.mode ≠ .panicking c) ∧ cs ≠ []) ∨ Lost P fr cs v1)
  | .comm g cs b sh v1 _ => ∃ c fr l, g = G fr l ∧ cs = #[c] ∧ b = true ∧ sh = .send ∧ ∀ r : Nat, ∀ cap buf cl s t tm, v1.heap[r]? ≠ some (Obj.chan cap buf cl s t tm)
  | _ => False
/-- what the lone step x does from v, the other world's step y does from w -/
structure Both (P : Program) (d0 : List Frame) (ρ : Rn) (v w : World) (x : World → GStep) (y : GStep) : Prop where
  follows : ∀ fr cs v1 es, x v = .go (G fr cs) v1 es → (∀ c, fr.mode ≠ .panicking c) → cs ≠ [] →
    (Took v v1 ∧ ∀ T D, Alike v v1 T D → ∃ es', x (onT v T D) = .go (G fr cs) (onT v1 T (D + (v1.drawn - v.drawn))) es') ∧
    ∃ ρ1 fr' cs' w1 es', y = .go (G fr' cs') w1 es' ∧ StR P d0 ρ1 fr cs fr' cs' ∧ WR ρ1 v1 w1 ∧ Did ρ ρ1 v v1 w w1 ∧ ∀ e ∈ es', EvR ρ1 v1 e
  tame : Tame P (x v)
theorem Both.pure {d0 : List Frame} {v w : World} {fr fr' : Frame} {cs cs' : List Frame} (hw : WR ρ v w) (st : StR P d0 ρ fr cs fr' cs') : Both P d0 ρ v w (fun v => .go (G fr cs) v) (.go (G fr' cs') w) := by
  refine ⟨fun fr1 cs1 v1 es he np nc => ?_, ⟨fr, cs, rfl, .inl ⟨st.fk.live, st.ne⟩⟩⟩
  injection he with e1 e2 e3
  unfold G at e1
  injection e1 with e4 e5
  subst e2 e4 e5
  exact ⟨⟨Took.refl _, fun T D _ => ⟨_, by rw [onT_at]⟩⟩, ρ, fr', cs', w, #[], rfl, st, hw, Did.refl _ _ _, fun e he => by simp at he⟩
theorem Both.ended {d0 : List Frame} {v w : World} {x : World → GStep} {y : GStep} (h : ∃ o w' es, x v = .ended o w' es) : Both P d0 ρ v w x y := by
  obtain ⟨o, w', es, h⟩ := h
  refine ⟨fun fr1 cs1 v1 es he np nc => ?_, ?_⟩
  · rw [h] at he; cases he
  · rw [h]; exact True.intro
theorem Both.lost {d0 : List Frame} {v w : World} {x : World → GStep} {y : GStep} {fr : Frame} {cs : List Frame} {v1 : World} {es : Array Event} (h : x v = .go (G fr cs) v1 es) (hc : cs = [] ∨ ∃ c, fr.mode = .panicking c) (hl : Lost P fr cs v1) : Both P d0 ρ v w x y := by
  refine ⟨fun fr1 cs1 v2 es he np nc => ?_, ?_⟩
  · rw [h] at he
    injection he with e1 e2 e3
    unfold G at e1
    injection e1 with e4 e5
    subst e4 e5
    rcases hc with rfl | ⟨c, hc⟩
    · exact (nc rfl).elim
    · exact (np c hc).elim
  · rw [h]; exact ⟨fr, cs, rfl, .inr hl⟩
end
end Go.Proofs.YtgjhmbbbkkidlaaGreatDoor.sim
/-
  Two runs side by side: an operation's step.
  Conditions: none; no program in sight.
-/
namespace Go.Proofs.YtgjhmbbbkkidlaaGreatDoor.sim
open Go
open Go.Conc (G)
section
variable {P : Program} {ρ : Rn} {d0 : List Frame}
theorem Both.went {v w : World} {x : World → GStep} {y : GStep} {fr1 fr1' : Frame} {cs1 cs1' : List Frame} {v1 w1 : World} {es1 es1' : Array Event} {ρ1 : Rn}
    (hx : x v = .go (G fr1 cs1) v1 es1) (ht : Took v v1) (hc : ∀ T D, Alike v v1 T D → ∃ es', x (onT v T D) = .go (G fr1 cs1) (onT v1 T (D + (v1.drawn - v.drawn))) es')
    (hy : y = .go (G fr1' cs1') w1 es1') (st : StR P d0 ρ1 fr1 cs1 fr1' cs1') (hw : WR ρ1 v1 w1) (hd : Did ρ ρ1 v v1 w w1) (he : ∀ e ∈ es1', EvR ρ1 v1 e) : Both P d0 ρ v w x y := by
  refine ⟨fun fr2 cs2 v2 es e1 np nc => ?_, ?_⟩
  · rw [hx] at e1
    injection e1 with e2 e3 e4
    unfold G at e2
    injection e2 with e5 e6
    subst e3 e5 e6
    exact ⟨⟨ht, hc⟩, ρ1, fr1', cs1', w1, es1', hy, st, hw, hd, he⟩
  · rw [hx]
    exact ⟨fr1, cs1, rfl, .inl ⟨st.fk.live, st.ne⟩⟩
def Evs (P : Program) (fr : Frame) (es : Array Event) : Array Event := seen P fr.fn (if fr.kind == .early then #[] else es) ++ #[]
theorem mem_Evs {fr : Frame} {es : Array Event} {e : Event} (h : e ∈ Evs P fr es) : e ∈ es := by
  unfold Evs at h
  rcases Array.mem_append.1 h with h | h
  · have := seen_mem P fr.fn _ e h
    split at this
    · simp at this
    · exact this
  · simp at h
variable {fr : Frame} {cs : List Frame} {s : Sem Next} {v v1 : World} {es : Array Event}
theorem apply_value {u : Value} (h : s.runT P v #[] = (.ok (.value u) v1, es)) : stepG.apply P true fr cs none s v = .go (G (fr.finish u) cs) v1 (Evs P fr es) := by
  unfold stepG.apply
  simp only [if_true, h]
  rfl
theorem apply_skip (h : s.runT P v #[] = (.ok .skip v1, es)) : stepG.apply P true fr cs none s v = .go (G (fr.finish undef) cs) v1 (Evs P fr es) := by
  unfold stepG.apply
  simp only [if_true, h]
  rfl
theorem apply_enter {f : FuncId} {x : Array Value} {ops : Array Oper} {is : List Nat} {k : List Item} (ht : fr.todo = .inRegion ops is :: k) (h : s.runT P v #[] = (.ok (.enter f x) v1, es)) : stepG.apply P true fr cs none s v = .go (G (Frame.enter P f x .normal) (fr :: cs)) v1 (Evs P fr es) := by
  unfold stepG.apply
  simp only [if_true, h, ht]
  rfl
theorem apply_comm {c : Array CommCase} {b : Bool} {sh : CommShape} (h : s.runT P v #[] = (.ok (.comm c b sh) v1, es)) : stepG.apply P true fr cs none s v = .comm (G fr cs) c b sh v1 (Evs P fr es) := by
  unfold stepG.apply
  simp only [if_true, h]
  rfl
theorem apply_panic {u : Value} (h : s.runT P v #[] = (.halt (.panic u) v1, es)) : stepG.apply P true fr cs none s v = .go (G (fr.raise [{ v := u, recovered := false }]) cs) v1 (Evs P fr es) := by
  unfold stepG.apply
  simp only [if_true, h]
  rfl
theorem apply_ended {h0 : Halt} (ho : Ord h0) (hp : ∀ u, h0 ≠ .panic u) (h : s.runT P v #[] = (.halt h0 v1, es)) : ∃ o w' es', stepG.apply P true fr cs none s v = .ended o w' es' := by
  unfold stepG.apply
  simp only [if_true, h]
  cases h0 with
  | panic u => exact (hp u rfl).elim
  | unsupported u => cases u <;> first | exact ho.elim | exact ⟨_, _, _, rfl⟩
  | _ => first | exact ho.elim | exact ⟨_, _, _, rfl⟩
end
section
variable {P : Program} {ρ : Rn} {d0 : List Frame}
theorem FkR.finish {fr fr' : Frame} (h : FkR P ρ fr fr') {v v' : Value} (r : VR ρ v v') {ops : Array Oper} {i : Nat} {is : List Nat} {k : List Item} (e : fr.todo = .inRegion ops (i :: is) :: k) : FkR P ρ (fr.finish v) (fr'.finish v') := by
  have ht := h.todo
  rw [e] at ht
  obtain ⟨ok, k', e', tk⟩ := ht.region
  refine ⟨h.rel.finish r ops i is k k' e e', ?_, ?_⟩
  · unfold Frame.finish
    rw [e, e']
    exact .cons ok tk
  · have lv := h.live
    unfold Frame.finish
    rw [e]
    exact lv
theorem finish_kind (fr : Frame) (v : Value) : (fr.finish v).kind = fr.kind := by
  unfold Frame.finish
  split <;> rfl
/-- the bodies of the workers' functions -/
def Bodies (P : Program) : Prop := ∀ f, HasBody P f → ∀ fn c, P.funcs[f]? = some fn → fn.body = some c → OkC P c
theorem FkR.enter (hB : Bodies P) {f : FuncId} (hf : HasBody P f) {x x' : Array Value} (h : ArR ρ x x') (k : CallKind) : FkR P ρ (Frame.enter P f x k) (Frame.enter P f x' k) := by
  refine ⟨FrR.enter P f h k, ?_, ?_⟩
  · obtain ⟨_, fn, e1, e2, e3⟩ := id hf
    unfold Frame.enter
    dsimp only
    rw [e1]
    cases hb : fn.body with
    | none => rw [hb] at e2; cases e2
    | some c =>
      have e : (((some fn : Option Func).bind (·.body)).getD (.refuse "unsupported: a function without a Go body is entered")) = c := by
        show (fn.body).getD _ = c
        rw [hb]
        rfl
      rw [e]
      exact .cons (i := .code c) (hB f hf fn c e1 hb) .nil
  · intro c hc
    cases hc
theorem both_apply (hB : Bodies P) {v w : World} {fr fr' : Frame} {cs cs' : List Frame} (st : StR P d0 ρ fr cs fr' cs') (hw : WR ρ v w) {s s' : Sem Next} (hs : TR P (NxR P) ρ s s')
    {ops : Array Oper} {i : Nat} {is : List Nat} {k : List Item} (ht : fr.todo = .inRegion ops (i :: is) :: k) (hm : fr.mode = .run) :
    Both P d0 ρ v w (fun v => stepG.apply P true fr cs none s v) (stepG.apply P true fr' cs' none s' w) := by
  cases hr : s.runT P v #[] with
  | mk r es =>
  have ht0 := st.fk.todo
  rw [ht] at ht0
  obtain ⟨_, k', ht', _⟩ := ht0.region
  cases r with
  | ok a v1 =>
    obtain ⟨ρ1, b, w1, gs, hy, rr, hw1, hd, he⟩ := TR.runT s s' ρ v w #[] #[] a v1 hs hw (by rw [hr])
    obtain ⟨tk, on⟩ := TR.on s s' ρ v w #[] a v1 es hs hw hr
    rw [Array.empty_append] at hy
    cases rr with
    | value q =>
      exact .went (apply_value hr) tk (fun T D a => ⟨_, apply_value (on T D a)⟩) (apply_value hy) (st.top hd.le ((st.fk.mono hd.le).finish q ht) (finish_kind _ _)) hw1 hd fun e h => he e (mem_Evs h)
    | skip =>
      exact .went (apply_skip hr) tk (fun T D a => ⟨_, apply_skip (on T D a)⟩) (apply_skip hy) (st.top hd.le ((st.fk.mono hd.le).finish (undefR _) ht) (finish_kind _ _)) hw1 hd fun e h => he e (mem_Evs h)
    | enter f hf q =>
      exact .went (apply_enter ht hr) tk (fun T D a => ⟨_, apply_enter ht (on T D a)⟩) (apply_enter ht' hy) (.cons (FkR.enter hB hf q .normal) rfl ⟨hm, ops, i, is, k, ht⟩ (st.mono hd.le)) hw1 hd fun e h => he e (mem_Evs h)
    | send q =>
      refine ⟨fun fr2 cs2 v2 es e1 np nc => ?_, ?_⟩
      · rw [apply_comm hr] at e1
        cases e1
      · rw [apply_comm hr]
        refine ⟨_, fr, cs, rfl, rfl, rfl, rfl, fun r cap buf cl s t tm hch => ?_⟩
        rcases hw1.only r with o | ⟨c, e, fr, o⟩ | ⟨n, l, _, o⟩ <;> rw [o] at hch <;> cases hch
  | halt h0 v1 =>
    have ho := TR.ord s s' ρ v w #[] h0 v1 hs hw (by rw [hr])
    by_cases hp : ∀ u, h0 ≠ .panic u
    · exact .ended (apply_ended ho hp hr)
    · cases h0 with
      | panic u => exact .lost (apply_panic hr) (.inr (raise_mode _ _)) (lost_panic _ _ _ (raise_mode _ _) (st.allD.raise _))
      | _ => exact (hp fun u q => by cases q).elim
end
end Go.Proofs.YtgjhmbbbkkidlaaGreatDoor.sim
/-
  Two runs side by side: one step of a goroutine.
  Conditions: none; no program in sight.
-/
namespace Go.Proofs.YtgjhmbbbkkidlaaGreatDoor.sim
open Go
open Go.Conc (G)
section
variable {P : Program} {ρ : Rn} {d0 : List Frame}
theorem FkR.to {fr fr' : Frame} (h : FkR P ρ fr fr') {t t' : List Item} (ok : TodoR P t t') : FkR P ρ { fr with todo := t } { fr' with todo := t' } :=
  ⟨⟨h.rel.fn, h.rel.mode, h.rel.kind, h.rel.round, h.rel.round', h.rel.defers, h.rel.defers', h.rel.tmps⟩, ok, h.live⟩
theorem FkR.ret {fr fr' : Frame} (h : FkR P ρ fr fr') : FkR P ρ { fr with mode := .returning } { fr' with mode := .returning } :=
  ⟨⟨h.rel.fn, rfl, h.rel.kind, h.rel.round, h.rel.round', h.rel.defers, h.rel.defers', h.rel.tmps⟩, h.todo, fun c hc => by cases hc⟩
theorem both_to {v w : World} {fr fr' : Frame} {cs cs' : List Frame} (st : StR P d0 ρ fr cs fr' cs') (hw : WR ρ v w) {t t' : List Item} (ok : TodoR P t t') {X : World → GStep} {Y : GStep}
    (hx : ∀ v, X v = .go (G { fr with todo := t } cs) v) (hy : Y = .go (G { fr' with todo := t' } cs') w) : Both P d0 ρ v w X Y := by
  rw [show X = _ from funext hx, hy]
  exact .pure hw (st.top (Rn.le.refl _) (st.fk.to ok) rfl)
theorem exitTo_sub (id : Nat) {l m : List Item} (h : TodoR P l m) : ∀ {l'}, exitTo id l = some l' → ∃ m', exitTo id m = some m' ∧ TodoR P l' m' := by
  induction h with
  | nil => intro l' h; cases h
  | cut c => intro l' h; cases h
  | @cons i k k' ok t ih =>
    intro l' h
    cases i with
    | inBlock id' =>
      unfold exitTo at h ⊢
      by_cases e : (id' == id) = true
      · rw [if_pos e] at h ⊢
        cases h
        exact ⟨_, rfl, t⟩
      · rw [if_neg e] at h ⊢
        exact ih h
    | _ => exact ih h
theorem both_ret {v w v1 w1 : World} {fr fr' : Frame} {cs cs' : List Frame} {ρ1 : Rn} (st : StR P d0 ρ1 fr cs fr' cs') (hw1 : WR ρ1 v1 w1) (hd : Did ρ ρ1 v v1 w w1) {E E' : Array Event} (he : ∀ e ∈ E', EvR ρ1 v1 e) {u u' : Value} (r : VR ρ1 u u') {main : Bool} {X : World → GStep} {Y : GStep}
    (tk : Took v v1) (hx : X v = GStep.after E (doReturn P true fr cs none u v1)) (on : ∀ T D, Alike v v1 T D → X (onT v T D) = GStep.after E (doReturn P true fr cs none u (onT v1 T (D + (v1.drawn - v.drawn))))) (hy : Y = GStep.after E' (doReturn P main fr' cs' none u' w1)) : Both P d0 ρ v w X Y := by
  cases st with
  | base fk hk =>
    rcases hk with hk | hk
    · refine .lost (fr := c0 P) (cs := []) (v1 := v1) (es := E ++ #[]) ?_ (.inl rfl) (lost_c0 _ rfl rfl rfl rfl _)
      rw [hx]
      unfold doReturn
      simp only [hk]
      rfl
    · refine .lost (fr := (c0 P).finish u) (cs := []) (v1 := v1) (es := E ++ #[]) ?_ (.inl rfl) (lost_c0 _ rfl rfl rfl rfl _)
      rw [hx]
      unfold doReturn
      simp only [hk]
      rfl
  | cons fk hk wt st =>
    obtain ⟨hm, ops, i, is, k, ht⟩ := wt
    have hk' := fk.rel.kind.trans hk
    refine .went (fr1 := _) (es1 := E ++ #[]) (es1' := E' ++ #[]) (by rw [hx]; unfold doReturn; simp only [hk]; rfl) tk (fun T D a => ⟨E ++ #[], by rw [on T D a]; unfold doReturn; simp only [hk]; rfl⟩) (by rw [hy]; unfold doReturn; simp only [hk']; rfl) (st.top (Rn.le.refl _) (st.fk.finish r ht) (finish_kind _ _)) hw1 hd fun e h => ?_
    rcases Array.mem_append.1 h with h | h
    · exact he e h
    · simp at h
theorem after_nil (s : GStep) : GStep.after #[] s = s := by cases s <;> simp [GStep.after]
theorem both_unwind {v w : World} {fr fr' : Frame} {cs cs' : List Frame} (st : StR P d0 ρ fr cs fr' cs') (hw : WR ρ v w) (hm : fr.mode = .returning) (main : Bool) :
    Both P d0 ρ v w (fun v => unwind P true fr cs none v) (unwind P main fr' cs' none w) := by
  have h := st.fk.rel
  have hm' := h.mode.trans hm
  cases hf : P.funcs[fr.fn]? with
  | none =>
    have hf' : P.funcs[fr'.fn]? = none := by rw [h.fn]; exact hf
    refine both_ret (E := #[]) (E' := #[]) (u := fr.tmps.getD 0 undef) (u' := fr'.tmps.getD 0 undef) (main := main) st hw (Did.refl _ _ _) (fun e he => by simp at he) (h.tmps.getD 0) (Took.refl _) ?_ (fun T D a => ?_) ?_
    · rw [after_nil]
      unfold unwind
      simp only [h.defers, hm, hf]
    · rw [after_nil, onT_at]
      unfold unwind
      simp only [h.defers, hm, hf]
    · rw [after_nil]
      unfold unwind
      simp only [h.defers', hm', hf']
  | some fn =>
    have hf' : P.funcs[fr'.fn]? = some fn := by rw [h.fn]; exact hf
    have hs := TR.results (P := P) fn h.tmps
    cases hr : (results fn fr.tmps).runT P v #[] with
    | mk r es =>
    cases r with
    | ok a v1 =>
      obtain ⟨ρ1, b, w1, gs, hy, rr, hw1, hd, he⟩ := TR.runT _ _ ρ v w #[] #[] a v1 hs hw (by rw [hr])
      obtain ⟨tk, on⟩ := TR.on _ _ ρ v w #[] a v1 es hs hw hr
      rw [Array.empty_append] at hy
      refine both_ret (E := seen P fr.fn es) (E' := seen P fr'.fn gs) (main := main) (st.mono hd.le) hw1 hd (fun e h => he e (seen_mem _ _ _ e h)) rr tk ?_ (fun T D a => ?_) ?_
      · unfold unwind
        simp only [h.defers, hm, hf, hr]
      · unfold unwind
        simp only [h.defers, hm, hf, on T D a]
      · unfold unwind
        simp only [h.defers', hm', hf', hy]
    | halt h0 v1 =>
      refine .ended ?_
      unfold unwind
      simp only [h.defers, hm, hf, hr]
      cases h0 <;> exact ⟨_, _, _, rfl⟩
end
section
variable {P : Program} {ρ : Rn} {d0 : List Frame}
theorem both_exec (hB : Bodies P) (hG : P.globals.size ≤ ρ.g0) (hg : ∀ g, g < P.globals.size → ρ.rel g g) {v w : World} {fr fr' : Frame} {cs cs' : List Frame} (st : StR P d0 ρ fr cs fr' cs') (hw : WR ρ v w) (hm : fr.mode = .run) (main : Bool) :
    Both P d0 ρ v w (fun v => stepG.exec P true true fr cs none v) (stepG.exec P main true fr' cs' none w) := by
  have h := st.fk.rel
  have hev : ∀ x, GoodX P x → VR ρ (fr.eval x) (fr'.eval x) := fun x hx => h.eval hg x hx
  have leave : ∀ (X : World → GStep) (Y : GStep), (∀ v, X v = .go (G { fr with mode := .returning } cs) v) → Y = .go (G { fr' with mode := .returning } cs') w → Both P d0 ρ v w X Y := by
    intro X Y hx hy
    rw [show X = _ from funext hx, hy]
    exact .pure hw (st.top (Rn.le.refl _) st.fk.ret rfl)
  have ht := st.fk.todo
  cases e : fr.todo with
  | nil =>
    rw [e] at ht
    generalize e' : fr'.todo = m at ht
    cases ht
    exact leave _ _ (fun v => by unfold stepG.exec; simp only [e, h.round]; rfl) (by unfold stepG.exec; simp only [e', h.round']; rfl)
  | cons it k =>
    rw [e] at ht
    generalize e' : fr'.todo = m at ht
    cases ht with
    | cut cx =>
      cases cx with
      | here s => exact .ended ⟨_, _, _, by unfold stepG.exec; simp only [e]; rfl⟩
      | seq oa cx => exact both_to st hw (.cons (i := .code _) oa (.cut cx)) (fun v => by unfold stepG.exec; simp only [e]; rfl) (by unfold stepG.exec; simp only [e']; rfl)
    | @cons _ _ k' ok0 okk =>
    have cons2 : ∀ {a : Item} {l l' : List Item}, OkI P a → TodoR P l l' → TodoR P (a :: l) (a :: l') := fun a b => .cons a b
    cases it with
    | inBlock id => exact both_to st hw okk (fun v => by unfold stepG.exec; simp only [e]; rfl) (by unfold stepG.exec; simp only [e']; rfl)
    | inScope b => exact both_to st hw okk (fun v => by unfold stepG.exec; simp only [e]; rfl) (by unfold stepG.exec; simp only [e']; rfl)
    | inLoop b => exact both_to st hw (t := .code b :: .inLoop b :: k) (cons2 ok0 (cons2 ok0 okk)) (fun v => by unfold stepG.exec; simp only [e]; rfl) (by unfold stepG.exec; simp only [e']; rfl)
    | inRangeFunc l => exact ok0.elim
    | endRangeFunc l => exact ok0.elim
    | beginRound => exact ok0.elim
    | call d a b c => exact ok0.elim
    | extern a b => exact ok0.elim
    | inRegion ops is =>
      cases is with
      | nil => exact both_to st hw okk (fun v => by unfold stepG.exec; simp only [e]; rfl) (by unfold stepG.exec; simp only [e']; rfl)
      | cons i is =>
        have hyd : yielded ops fr'.tmps = yielded ops fr.tmps := funext fun j => h.yielded ops j
        cases hwant : ((ops[i]?).map (Region.wanted · (yielded ops fr.tmps))).getD false with
        | false =>
          have hx : ∀ v, stepG.exec P true true fr cs none v = .go (G (fr.finish undef) cs) v := fun v => by
            unfold stepG.exec
            simp only [e, hwant]
            rfl
          have hy : stepG.exec P main true fr' cs' none w = .go (G (fr'.finish undef) cs') w := by
            unfold stepG.exec
            simp only [e', hyd, hwant]
            rfl
          rw [show (fun v => stepG.exec P true true fr cs none v) = _ from funext hx, hy]
          exact .pure hw (st.top (Rn.le.refl _) (st.fk.finish (undefR _) e) (finish_kind _ _))
        | true =>
          cases ho : ops[i]? with
          | none => rw [ho] at hwant; cases hwant
          | some o =>
            have hop : OpOk P o.op := ok0 o (Array.mem_of_getElem? ho)
            have hx : ∀ v, stepG.exec P true true fr cs none v = stepG.apply P true fr cs none (execOp fr.eval o) v := fun v => by
              unfold stepG.exec
              simp only [e, hwant]
              unfold stepG.oper Frame.oper?
              simp only [e, ho, h.round]
              rfl
            have hy : stepG.exec P main true fr' cs' none w = stepG.apply P true fr' cs' none (execOp fr'.eval o) w := by
              unfold stepG.exec
              simp only [e', hyd, hwant]
              unfold stepG.oper Frame.oper?
              simp only [e', ho, h.round']
              rfl
            rw [show (fun v => stepG.exec P true true fr cs none v) = _ from funext hx, hy]
            exact both_apply hB st hw (TR.execOp hG o hop fr.eval fr'.eval hev fun f => ⟨rfl, rfl⟩) e hm
    | code c =>
      cases c with
      | skip => exact both_to st hw okk (fun v => by unfold stepG.exec; simp only [e]; rfl) (by unfold stepG.exec; simp only [e']; rfl)
      | label l => exact both_to st hw okk (fun v => by unfold stepG.exec; simp only [e]; rfl) (by unfold stepG.exec; simp only [e']; rfl)
      | ret => exact leave _ _ (fun v => by unfold stepG.exec; simp only [e, h.round]; rfl) (by unfold stepG.exec; simp only [e', h.round']; rfl)
      | seq a b => exact both_to st hw (t := .code a :: .code b :: k) (cons2 ok0.1 (cons2 ok0.2 okk)) (fun v => by unfold stepG.exec; simp only [e]; rfl) (by unfold stepG.exec; simp only [e']; rfl)
      | block id b => exact both_to st hw (t := .code b :: .inBlock id :: k) (cons2 ok0 (cons2 True.intro okk)) (fun v => by unfold stepG.exec; simp only [e]; rfl) (by unfold stepG.exec; simp only [e']; rfl)
      | loop b => exact both_to st hw (t := .code b :: .inLoop b :: k) (cons2 ok0 (cons2 ok0 okk)) (fun v => by unfold stepG.exec; simp only [e]; rfl) (by unfold stepG.exec; simp only [e']; rfl)
      | scope b => exact both_to st hw (t := .code b :: .inScope b :: k) (cons2 ok0 (cons2 ok0 okk)) (fun v => by unfold stepG.exec; simp only [e]; rfl) (by unfold stepG.exec; simp only [e']; rfl)
      | exit id =>
        cases hex : exitTo id k with
        | some k1 =>
          obtain ⟨k1', hex', t1⟩ := exitTo_sub id okk hex
          exact both_to st hw t1 (fun v => by unfold stepG.exec; simp only [e, hex]; rfl) (by unfold stepG.exec; simp only [e', hex']; rfl)
        | none =>
          refine .ended ?_
          unfold stepG.exec
          simp only [e, hex, h.round]
          exact ⟨_, _, _, rfl⟩
      | cond c a b =>
        obtain ⟨hc, ha, hb⟩ := ok0
        have q := hev c hc
        by_cases hbool : ∃ x, fr.eval c = .bool x
        · obtain ⟨x, hx⟩ := hbool
          have hx' : fr'.eval c = .bool x := by
            rw [hx] at q
            generalize fr'.eval c = u at q
            cases q
            rfl
          refine both_to st hw (t := .code (if x then a else b) :: k) (cons2 ?_ okk) (fun v => by unfold stepG.exec; simp only [e, hx]; rfl) (by unfold stepG.exec; simp only [e', hx']; rfl)
          cases x
          · exact hb
          · exact ha
        · refine .ended ?_
          unfold stepG.exec
          simp only [e]
          cases hx : fr.eval c with
          | bool x => exact (hbool ⟨x, hx⟩).elim
          | _ => exact ⟨_, _, _, rfl⟩
      | region id ops draw =>
        cases draw with
        | false => exact both_to st hw (t := .inRegion ops (List.range ops.size) :: k) (cons2 ok0 okk) (fun v => by unfold stepG.exec; simp only [e]; rfl) (by unfold stepG.exec; simp only [e']; rfl)
        | true =>
          have hfn := h.fn
          have hx : ∀ v, stepG.exec P true true fr cs none v = .go (G { fr with todo := .inRegion ops (Region.schedule (P.follows .mixedOrders) ops (v.tape v.drawn (.order fr.fn id))) :: k } cs) { v with drawn := v.drawn + 1 } := fun v => by
            unfold stepG.exec
            simp [e, choose, Sem.run, Question.forced, Question.cut, G]
          have hy : stepG.exec P main true fr' cs' none w = .go (G { fr' with todo := .inRegion ops (Region.schedule (P.follows .mixedOrders) ops (w.tape w.drawn (.order fr'.fn id))) :: k' } cs') { w with drawn := w.drawn + 1 } := by
            unfold stepG.exec
            simp [e', choose, Sem.run, Question.forced, Question.cut, G]
          have ht : v.tape v.drawn (.order fr.fn id) = w.tape w.drawn (.order fr.fn id) := hw.tape 0 _
          have hq : w.tape w.drawn (.order fr'.fn id) = v.tape v.drawn (.order fr.fn id) := by rw [hfn]; exact ht.symm
          rw [hq] at hy
          have okr : ∀ is, TodoR P (Item.inRegion ops is :: k) (Item.inRegion ops is :: k') := fun is => cons2 ok0 okk
          refine .went (hx v) ⟨Nat.le_succ _, rfl⟩ (fun T D a => ⟨#[], ?_⟩) hy (st.top (Rn.le.refl _) (st.fk.to (okr _)) rfl) hw.draw Did.draw fun e he => by simp at he
          dsimp only
          rw [hx]
          have a0 : T D (.order fr.fn id) = v.tape v.drawn (.order fr.fn id) := a 0 _ (Nat.lt_succ_self _)
          have e1 : v.drawn + 1 - v.drawn = 1 := by omega
          show GStep.go (G { fr with todo := .inRegion ops (Region.schedule (P.follows .mixedOrders) ops (T D (.order fr.fn id))) :: k } cs) { v with tape := T, drawn := D + 1 } #[] = _
          rw [a0, e1]
          rfl
      | goto l => exact ok0.elim
      | rangeFunc a b c d => exact ok0.elim
      | refuse a => exact ok0.elim
/-- ONE STEP: what the lone goroutine does, the other world's goroutine does -/
theorem both_step (hB : Bodies P) (hG : P.globals.size ≤ ρ.g0) (hg : ∀ g, g < P.globals.size → ρ.rel g g) {v w : World} {fr fr' : Frame} {cs cs' : List Frame} (st : StR P d0 ρ fr cs fr' cs') (hw : WR ρ v w) (main : Bool) :
    Both P d0 ρ v w (fun v => stepG P true (G fr cs) v) (stepG P main (G fr' cs') w) := by
  have hm' := st.fk.rel.mode
  cases hm : fr.mode with
  | run =>
    rw [hm] at hm'
    rw [show (fun v => stepG P true (G fr cs) v) = fun v => stepG.exec P true true fr cs none v from funext fun v => by unfold stepG G; simp only [hm], show stepG P main (G fr' cs') w = stepG.exec P main true fr' cs' none w by unfold stepG G; simp only [hm']]
    exact both_exec hB hG hg st hw hm main
  | returning =>
    rw [hm] at hm'
    rw [show (fun v => stepG P true (G fr cs) v) = fun v => unwind P true fr cs none v from funext fun v => by unfold stepG G; simp only [hm], show stepG P main (G fr' cs') w = unwind P main fr' cs' none w by unfold stepG G; simp only [hm']]
    exact both_unwind st hw hm main
  | panicking c => exact (st.fk.live c hm).elim
end
end Go.Proofs.YtgjhmbbbkkidlaaGreatDoor.sim
/-
  From runs that end on every tape to a walk that is bounded whatever is drawn.
  Conditions: none; no program in sight.
-/
namespace Go.Proofs.YtgjhmbbbkkidlaaGreatDoor.sim
open Go
open Go.Conc (G)
section
variable {P : Program}
theorem blocked_ends {g : Goroutine} {o : Option (Array CommCase × CommShape)} {v : World} : ∃ x w, step P { world := v, gs := #[{ g with status := .blocked, offers := o }], rest := { timers := #[], alone := none, slice := none } } = .ended x w := by
  have hm : ∃ x w, move P { world := v, gs := #[{ g with status := .blocked, offers := o }], rest := { timers := #[], alone := none, slice := none } } = .machine (.ended x w) := by
    simp [move, ask, askOn, runnable_eq, due, ahead, Goroutine.canRun, List.range_succ, choose, pure, Sem.run]
    split
    · exact ⟨_, _, rfl⟩
    · exact ⟨_, _, rfl⟩
  obtain ⟨x, w, hm⟩ := hm
  exact ⟨x, w, by rw [step, stepT, hm]⟩
theorem lone_comm {fr fr1 : Frame} {cs l : List Frame} {c : CommCase} {v v1 : World} {es : Array Event} (h : stepG P true (G fr cs) v = .comm (G fr1 l) #[c] true .send v1 es)
    (hno : ∀ r : Nat, ∀ cap buf cl s t tm, v1.heap[r]? ≠ some (Obj.chan cap buf cl s t tm)) : ∀ n fr2 cs2 v2, runN P (n + 1) (lone fr cs v) ≠ .next (lone fr2 cs2 v2) := by
  have key : (∃ o w, step P (lone fr cs v) = .ended o w) ∨ ∃ o, step P (lone fr cs v) = .next { world := v1, gs := #[{ G fr1 l with status := .blocked, offers := o }], rest := { timers := #[], alone := none, slice := none } } := by
    have h' : stepG P true { frame := fr, callers := cs, status := .running, dying := none } v = .comm (G fr1 l) #[c] true .send v1 es := h
    rw [step, stepT, move_lone]
    cases hc : c.chan with
    | chan r =>
      cases r with
      | none =>
        refine .inr ⟨some (#[c], .send), ?_⟩
        simp [runT, lone, Array.swapAt!, h', communicate, ways, hc, waitingAt, timerAhead]
      | some r =>
        refine .inl ?_
        cases ho : v1.heap[r]? with
        | none => exact ⟨_, _, by simp [runT, lone, Array.swapAt!, h', communicate, ways, hc, ho]; exact ⟨rfl, rfl⟩⟩
        | some o =>
          cases o with
          | chan a b c d e f => exact (hno r _ _ _ _ _ _ ho).elim
          | _ => exact ⟨_, _, by simp [runT, lone, Array.swapAt!, h', communicate, ways, hc, ho]; exact ⟨rfl, rfl⟩⟩
    | _ => exact .inl ⟨_, _, by simp [runT, lone, Array.swapAt!, h', communicate, ways, hc]; exact ⟨rfl, rfl⟩⟩
  intro n fr2 cs2 v2 hr
  rcases key with ⟨o, w, key⟩ | ⟨o, key⟩
  · simp only [runN, key] at hr
    cases hr
  · simp only [runN, key] at hr
    cases n with
    | zero =>
      simp only [runN] at hr
      have := Stepped.next.inj hr
      unfold lone at this
      injection this with h1 h2
      simp at h2
    | succ n =>
      obtain ⟨x, w, hb⟩ := blocked_ends (P := P) (g := G fr1 l) (o := o) (v := v1)
      simp only [runN, hb] at hr
      cases hr
/-- a state of the lone run -/
structure Sit where
  fr : Frame
  cs : List Frame
  v : World
def Sit.on (s : Sit) (T : Tape) : Sit := ⟨s.fr, s.cs, onT s.v T s.v.drawn⟩
def Sit.m (s : Sit) : Machine := lone s.fr s.cs s.v
def Agrees (s : Sit) (T : Tape) : Prop := ∀ i q, i < s.v.drawn → T i q = s.v.tape i q
def GoesTo (P : Program) (s s1 : Sit) : Prop := (∃ es, stepG P true (G s.fr s.cs) s.v = .go (G s1.fr s1.cs) s1.v es) ∧ (∀ c, s1.fr.mode ≠ .panicking c) ∧ s1.cs ≠ []
inductive Fin (P : Program) (Q : Sit → Prop) : Sit → Prop
  | stop {s : Sit} : Q s → Fin P Q s
  | step {s : Sit} (nx : Tape → Sit) : (∀ T, Agrees s T → GoesTo P (s.on T) (nx T)) → (∀ T, Agrees s T → Fin P Q (nx T)) → Fin P Q s
theorem Fin.of {Q : Sit → Prop} {s : Sit} (h : ∀ T, Agrees s T → ∃ s1, GoesTo P (s.on T) s1 ∧ Fin P Q s1) : Fin P Q s := by
  have : ∀ T, ∃ s1, Agrees s T → GoesTo P (s.on T) s1 ∧ Fin P Q s1 := by
    intro T
    by_cases a : Agrees s T
    · obtain ⟨s1, h1⟩ := h T a
      exact ⟨s1, fun _ => h1⟩
    · exact ⟨s, fun b => (a b).elim⟩
  obtain ⟨f, hf⟩ := Classical.axiomOfChoice this
  exact .step f (fun T a => (hf T a).1) fun T a => (hf T a).2
structure Gds (P : Program) (Gd : Sit → Prop) : Prop where
  on : ∀ s T, Gd s → Gd (s.on T)
  tame : ∀ s, Gd s → Tame P (stepG P true (G s.fr s.cs) s.v)
  next : ∀ s s1, Gd s → GoesTo P s s1 → Gd s1 ∧ Took s.v s1.v ∧ ∀ T, (∀ i q, s.v.drawn ≤ i → i < s1.v.drawn → T i q = s.v.tape i q) → GoesTo P (s.on T) (s1.on T)
structure Stops (Q : Sit → Prop) : Prop where
  on : ∀ s T, Q (s.on T) → Q s
  cs : ∀ s, Q s → s.cs ≠ []
  live : ∀ s, Q s → ∀ c, s.fr.mode ≠ .panicking c
def Live (P : Program) (Q : Sit → Prop) (s : Sit) : Prop := ∀ T, Agrees s T → ∃ n s2, runN P n (s.on T).m = .next s2.m ∧ Q s2
theorem Sit.m_inj {s s2 : Sit} (h : s.m = s2.m) : s = s2 := by
  obtain ⟨h1, h2, h3⟩ := lone_inj h
  cases s
  cases s2
  cases h1
  cases h2
  cases h3
  rfl
theorem GoesTo.step {s s1 : Sit} (h : GoesTo P s s1) : Go.step P s.m = .next s1.m := by
  obtain ⟨⟨es, h⟩, _⟩ := h
  refine step_lone_go ?_
  have h' : stepG P true { frame := s.fr, callers := s.cs, status := .running, dying := none } s.v = .go (G s1.fr s1.cs) s1.v es := h
  rw [h']
  rfl
variable {Gd Q : Sit → Prop}
theorem live_step (hg : Gds P Gd) (hQ : Stops Q) {s : Sit} (gd : Gd s) (lv : Live P Q s) (nq : ¬ Q s) (T : Tape) (ha : Agrees s T) : ∃ s1, GoesTo P (s.on T) s1 ∧ Gd s1 ∧ Live P Q s1 := by
  have gT := hg.on s T gd
  obtain ⟨n, s2, hn, q2⟩ := lv T ha
  cases n with
  | zero =>
    have : s.on T = s2 := Sit.m_inj (Stepped.next.inj hn)
    subst this
    exact (nq (hQ.on s T q2)).elim
  | succ m =>
    have ht := hg.tame _ gT
    cases hs : stepG P true (G (s.on T).fr (s.on T).cs) (s.on T).v with
    | ended o w es =>
      have : Go.step P (s.on T).m = .ended o w := step_lone_ended (by
        have h' : stepG P true { frame := (s.on T).fr, callers := (s.on T).cs, status := .running, dying := none } (s.on T).v = .ended o w es := hs
        rw [h']
        rfl)
      simp only [runN, this] at hn
      cases hn
    | comm g cs b sh v1 es =>
      rw [hs] at ht
      obtain ⟨c, fr, l, rfl, rfl, rfl, rfl, hno⟩ := ht
      exact (lone_comm hs hno m s2.fr s2.cs s2.v hn).elim
    | go g v1 es =>
      rw [hs] at ht
      obtain ⟨fr1, cs1, rfl, h⟩ := ht
      have hst : Go.step P (s.on T).m = .next (lone fr1 cs1 v1) := step_lone_go (by
        have h' : stepG P true { frame := (s.on T).fr, callers := (s.on T).cs, status := .running, dying := none } (s.on T).v = .go (G fr1 cs1) v1 es := hs
        rw [h']
        rfl)
      rcases h with ⟨h1, h2⟩ | h
      · have go1 : GoesTo P (s.on T) ⟨fr1, cs1, v1⟩ := ⟨⟨es, hs⟩, h1, h2⟩
        obtain ⟨gd1, tk, cong⟩ := hg.next _ _ gT go1
        refine ⟨⟨fr1, cs1, v1⟩, go1, gd1, fun T' ha' => ?_⟩
        have e1 : v1.tape = T := tk.2
        have le : s.v.drawn ≤ v1.drawn := tk.1
        have ha2 : Agrees s T' := fun i q hi => by
          have := ha' i q (Nat.lt_of_lt_of_le hi le)
          rw [this]
          show v1.tape i q = _
          rw [e1]
          exact ha i q hi
        have go2 : GoesTo P (s.on T') (Sit.on ⟨fr1, cs1, v1⟩ T') := cong T' fun i q _ hi => by
          rw [ha' i q hi]
          show v1.tape i q = T i q
          rw [e1]
        obtain ⟨n', s2', hn', q2'⟩ := lv T' ha2
        cases n' with
        | zero =>
          have : s.on T' = s2' := Sit.m_inj (Stepped.next.inj hn')
          subst this
          exact (nq (hQ.on s T' q2')).elim
        | succ m' =>
          simp only [runN, go2.step] at hn'
          exact ⟨m', s2', hn', q2'⟩
      · simp only [runN, hst] at hn
        obtain ⟨c, hc⟩ := h m s2.fr s2.cs s2.v hn (hQ.cs s2 q2)
        exact (hQ.live s2 q2 c hc).elim
    | _ => rw [hs] at ht; exact ht.elim
theorem fin_of_live (hg : Gds P Gd) (hQ : Stops Q) {s0 : Sit} (gd0 : Gd s0) (lv0 : Live P Q s0) : Fin P Q s0 := by
  apply Classical.byContradiction
  intro nf0
  let Bad : Sit → Prop := fun s => Gd s ∧ Live P Q s ∧ ¬ Fin P Q s
  let Nx : Sit → Sit → Prop := fun s s1 => ∃ T, Agrees s T ∧ GoesTo P (s.on T) s1
  have ex : ∀ s, ∃ s1, Bad s → Bad s1 ∧ Nx s s1 := by
    intro s
    by_cases hb : Bad s
    · obtain ⟨gd, lv, nf⟩ := hb
      have nq : ¬ Q s := fun q => nf (.stop q)
      have : ∃ T, Agrees s T ∧ ∀ s1, GoesTo P (s.on T) s1 → ¬ Fin P Q s1 := by
        apply Classical.byContradiction
        intro hn
        refine nf (Fin.of fun T ha => ?_)
        apply Classical.byContradiction
        intro hn2
        exact hn ⟨T, ha, fun s1 h1 h2 => hn2 ⟨s1, h1, h2⟩⟩
      obtain ⟨T, ha, hT⟩ := this
      obtain ⟨s1, go1, gd1, lv1⟩ := live_step hg hQ gd lv nq T ha
      exact ⟨s1, fun _ => ⟨⟨gd1, lv1, hT s1 go1⟩, T, ha, go1⟩⟩
    · exact ⟨s, fun h => (hb h).elim⟩
  obtain ⟨f, hf⟩ := Classical.axiomOfChoice ex
  let sq : Nat → Sit := fun n => Nat.rec s0 (fun _ s => f s) n
  have bad : ∀ n, Bad (sq n) := by
    intro n
    induction n with
    | zero => exact ⟨gd0, lv0, nf0⟩
    | succ n ih => exact (hf (sq n) ih).1
  have nx : ∀ n, Nx (sq n) (sq (n + 1)) := fun n => (hf (sq n) (bad n)).2
  have tk : ∀ n, (sq n).v.drawn ≤ (sq (n + 1)).v.drawn ∧ ∀ i q, i < (sq n).v.drawn → (sq (n + 1)).v.tape i q = (sq n).v.tape i q := by
    intro n
    obtain ⟨T, ha, go⟩ := nx n
    obtain ⟨_, tk, _⟩ := hg.next _ _ (hg.on _ T (bad n).1) go
    refine ⟨tk.1, fun i q hi => ?_⟩
    rw [show (sq (n + 1)).v.tape = T from tk.2]
    exact ha i q hi
  have tk2 : ∀ k n, (sq n).v.drawn ≤ (sq (n + k)).v.drawn ∧ ∀ i q, i < (sq n).v.drawn → (sq (n + k)).v.tape i q = (sq n).v.tape i q := by
    intro k n
    induction k with
    | zero => exact ⟨Nat.le_refl _, fun i q _ => rfl⟩
    | succ k ih =>
      have := tk (n + k)
      exact ⟨Nat.le_trans ih.1 this.1, fun i q hi => (this.2 i q (Nat.lt_of_lt_of_le hi ih.1)).trans (ih.2 i q hi)⟩
  classical
  let T : Tape := fun i q => if h : ∃ n, i < (sq n).v.drawn then (sq (Classical.choose h)).v.tape i q else 0
  have hT : ∀ n i q, i < (sq n).v.drawn → T i q = (sq n).v.tape i q := by
    intro n i q hi
    have h : ∃ n, i < (sq n).v.drawn := ⟨n, hi⟩
    show (if h : ∃ n, i < (sq n).v.drawn then (sq (Classical.choose h)).v.tape i q else 0) = _
    rw [dif_pos h]
    have hm := Classical.choose_spec h
    generalize Classical.choose h = m at hm
    rcases Nat.le_total m n with l | l
    · obtain ⟨k, rfl⟩ := Nat.exists_eq_add_of_le l
      exact ((tk2 k m).2 i q hm).symm
    · obtain ⟨k, rfl⟩ := Nat.exists_eq_add_of_le l
      exact (tk2 k n).2 i q hi
  have run : ∀ n, runN P n (s0.on T).m = .next ((sq n).on T).m := by
    intro n
    induction n with
    | zero => rfl
    | succ n ih =>
      obtain ⟨T0, ha, go⟩ := nx n
      obtain ⟨_, tk0, cong⟩ := hg.next _ _ (hg.on _ T0 (bad n).1) go
      have go2 : GoesTo P ((sq n).on T) ((sq (n + 1)).on T) := cong T fun i q _ hi => by
        rw [hT (n + 1) i q hi]
        rw [show (sq (n + 1)).v.tape = T0 from tk0.2]
        rfl
      rw [runN_add P n 1, ih]
      simp only [runN, go2.step]
  obtain ⟨n, s2, hn, q2⟩ := lv0 T fun i q hi => hT 0 i q hi
  rw [run n] at hn
  have : (sq n).on T = s2 := Sit.m_inj (Stepped.next.inj hn)
  subst this
  exact (bad n).2.2 (.stop (hQ.on _ T q2))
end
end Go.Proofs.YtgjhmbbbkkidlaaGreatDoor.sim
