/-
  The functions that the workers run are within what the law of the two runs covers.
  Conditions: none beyond those that each theorem names.
-/
import Derived.KernelRfl
import Derived.Test.YtgjhmbbbkkidlaaGreatDoorProg
import Derived.Test.YtgjhmbbbkkidlaaGreatDoorJd
/-
  What the program's tables and texts must be for the carrying over: checked by a program.
  Conditions: none.
-/
namespace Go.Proofs.YtgjhmbbbkkidlaaGreatDoor.sim
open Go
def goodV : Value → Bool
  | .bool _ => true
  | .int _ _ => true
  | .float _ _ => true
  | .string _ => true
  | .pointer none => true
  | .slice none _ _ => true
  | .map _ => true
  | .chan _ => true
  | .nilFunc => true
  | .nilIface => true
  | _ => false
def goodZ : Value → Bool
  | .agg x => x.all goodV
  | .tuple x => x.all goodV
  | v => goodV v
theorem goodV_VR {v : Value} (h : goodV v = true) (ρ : Rn) : VR ρ v v := by
  cases v with
  | pointer a => cases a with
    | none => exact .nilPtr
    | some a => cases h
  | slice a l c => cases a with
    | none => exact .nilSlice l c
    | some a => cases h
  | bool b => exact .bool b
  | int k n => exact .int k n
  | float k n => exact .float k n
  | string s => exact .string s
  | map r => exact .map r
  | chan r => exact .chan r
  | nilFunc => exact .nilFunc
  | nilIface => exact .nilIface
  | _ => cases h
theorem goodV_arr {x : Array Value} (h : x.all goodV = true) (ρ : Rn) : ArR ρ x x := by
  refine ArR.self fun v hv => goodV_VR ?_ ρ
  rw [Array.all_eq_true_iff_forall_mem] at h
  exact h v hv
theorem goodZ_VR {v : Value} (h : goodZ v = true) (ρ : Rn) : VR ρ v v := by
  cases v with
  | agg x => exact .agg (goodV_arr h ρ).1 (goodV_arr h ρ).2
  | tuple x => exact .tuple (goodV_arr h ρ).1 (goodV_arr h ρ).2
  | pointer a => exact goodV_VR (v := .pointer a) h ρ
  | slice a l c => exact goodV_VR (v := .slice a l c) h ρ
  | bool b => exact .bool b
  | int k n => exact .int k n
  | float k n => exact .float k n
  | string s => exact .string s
  | map r => exact .map r
  | chan r => exact .chan r
  | nilFunc => exact .nilFunc
  | nilIface => exact .nilIface
  | _ => cases h
def zeroB (i : TypeInfo) : Bool := match i.zero with
  | some z => goodZ z && (i.size == 0 || decide (0 < z.cells.size))
  | none => true
def ztB (P : Program) (t : TypeId) : Bool := match P.info? t with
  | some i => zeroB i
  | none => true
theorem zt_of {P : Program} {t : TypeId} (h : ztB P t = true) : Zt P t := by
  intro i z ht hz
  unfold ztB at h
  rw [ht] at h
  dsimp only at h
  unfold zeroB at h
  rw [hz] at h
  have h : goodZ z = true ∧ (i.size = 0 ∨ 0 < z.cells.size) := by simpa using h
  exact ⟨fun ρ => goodZ_VR h.1 ρ, fun hs => h.2.resolve_left (by omega)⟩
def zslB (P : Program) (t : TypeId) : Bool := match P.underlying t with
  | some (.slice e) => ztB P e
  | _ => true
theorem zsl_of {P : Program} {t : TypeId} (h : zslB P t = true) : Zsl P t := by
  intro e he
  unfold zslB at h
  rw [he] at h
  exact zt_of h
def zargB (P : Program) (o : Option TypeId) : Bool := match o with
  | some t => zslB P t
  | none => true
theorem zarg_of {P : Program} {o : Option TypeId} (h : zargB P o = true) : ∀ t, o = some t → Zsl P t := by
  rintro t rfl
  exact zsl_of h
def goodXB (P : Program) : Operand → Bool
  | .const v => goodZ v
  | .global g => decide (g < P.globals.size)
  | _ => true
theorem goodX_of {P : Program} {x : Operand} (h : goodXB P x = true) : GoodX P x := by
  cases x with
  | const v => exact fun ρ => goodZ_VR h ρ
  | global g => exact (of_decide_eq_true (p := g < P.globals.size) h : g < P.globals.size)
  | _ => trivial
def wkB (f : Nat) : Bool := decide (4 ≤ f ∧ f ≤ 11 ∨ f = 14 ∨ f = 15 ∨ 18 ≤ f ∧ f ≤ 41 ∨ f = 79 ∨ f = 80)
theorem wk_of {f : Nat} (h : wkB f = true) : Wk f := of_decide_eq_true (p := 4 ≤ f ∧ f ≤ 11 ∨ f = 14 ∨ f = 15 ∨ 18 ≤ f ∧ f ≤ 41 ∨ f = 79 ∨ f = 80) h
def hasB (P : Program) (f : Nat) : Bool := wkB f && match P.funcs[f]? with
  | some fn => !fn.body.isNone && !(fn.name == "runtime.NumGoroutine")
  | none => false
theorem has_of {P : Program} {f : Nat} (h : hasB P f = true) : HasBody P f := by
  unfold hasB at h
  rw [Bool.and_eq_true] at h
  refine ⟨wk_of h.1, ?_⟩
  cases e : P.funcs[f]? with
  | none => rw [e] at h; cases h.2
  | some fn =>
    rw [e] at h
    have := h.2
    simp only [Bool.and_eq_true, Bool.not_eq_true'] at this
    exact ⟨fn, rfl, this.1, this.2⟩
def methOne (P : Program) (name : String) (i : TypeInfo) : Bool := match i.methods.find? (·.name == name) with
  | some m => match m.func with
    | some (f, _) => hasB P f
    | none => true
  | none => true
def methB (P : Program) (name : String) : Bool := P.types.all (methOne P name)
theorem none_str (fs : Array Field) (info : TypeId → Option TypeInfo) (i : TypeInfo) (h : Made.reckonStruct info fs = some i) : i.methods = #[] := by
  unfold Made.reckonStruct at h
  simp only [Option.bind_eq_bind, Option.bind_eq_some_iff] at h
  obtain ⟨r, _, h⟩ := h
  split at h <;> (cases h; rfl)
theorem none_made (info : TypeId → Option TypeInfo) (d : TypeDesc) (i : TypeInfo) (h : Made.reckon info d = some i) : i.methods = #[] := by
  unfold Made.reckon at h
  cases d <;> dsimp only at h <;> try (cases h; done)
  case struct fs => exact none_str _ _ _ h
  case pointer e =>
    simp only [Option.bind_eq_bind, Option.bind_eq_some_iff] at h
    obtain ⟨r, _, h⟩ := h
    split at h
    · cases h
    · split at h
      · cases h
      · simp only [Option.bind_eq_some_iff] at h
        obtain ⟨_, _, h⟩ := h
        cases h
        rfl
    · simp only [Option.bind_eq_some_iff] at h
      obtain ⟨_, _, h⟩ := h
      cases h
      rfl
  all_goals
    simp only [Option.bind_eq_bind, Option.bind_eq_some_iff] at h
    repeat (obtain ⟨_, _, h⟩ := h)
    first
      | rfl
      | (cases h; rfl)
theorem made_none (T : Tables) : ∀ (n : Nat) (t : TypeId) (i : TypeInfo), ¬ t < T.types.size → Made.infoAt T n t = some i → i.methods = #[] := by
  intro n t i ht h
  cases n with
  | zero => cases h
  | succ n =>
    unfold Made.infoAt at h
    rw [if_neg ht] at h
    cases hd : Made.decode (t - T.types.size) with
    | none => rw [hd] at h; cases h
    | some d => rw [hd] at h; exact none_made _ d i h
theorem meth_of {P : Program} {name : String} (h : methB P name = true) : MethOk P name := by
  unfold methB at h
  rw [Array.all_eq_true_iff_forall_mem] at h
  intro t i m f b ht hm hf
  have ht : (if t < P.types.size then P.types[t]? else Made.infoAt P.toTables Made.depth t) = some i := ht
  by_cases hlt : t < P.types.size
  · rw [if_pos hlt] at ht
    have := h i (Array.mem_of_getElem? ht)
    unfold methOne at this
    rw [hm] at this
    dsimp only at this
    rw [hf] at this
    exact has_of this
  · rw [if_neg hlt] at ht
    rw [made_none _ _ _ _ hlt ht] at hm
    simp at hm
def intB (P : Program) (t : TypeId) : Bool := match P.underlying t with
  | some (.int _) => true
  | _ => false
theorem int_of {P : Program} {t : TypeId} (h : intB P t = true) : ∃ k, P.underlying t = some (.int k) := by
  unfold intB at h
  split at h
  · rename_i k e; exact ⟨k, e⟩
  · cases h
def eqB (P : Program) (t : TypeId) : Bool := match P.underlying t with
  | some .string => true
  | some .bool => true
  | some (.slice _) => true
  | some (.int _) => match P.info? t with
    | some i => match i.desc with
      | .named n _ => !(n == "sync.copyChecker")
      | _ => true
    | none => true
  | _ => false
theorem eq_of {P : Program} {t : TypeId} (h : eqB P t = true) : EqOk P t := by
  unfold eqB at h
  split at h
  · rename_i e; exact .inl e
  · rename_i e; exact .inr (.inl e)
  · rename_i x e; exact .inr (.inr (.inl ⟨x, e⟩))
  · rename_i k e
    refine .inr (.inr (.inr ⟨⟨k, e⟩, fun i hi u hu => ?_⟩))
    rw [hi] at h
    dsimp only at h
    rw [hu] at h
    simp at h
  · cases h
def convB (P : Program) (s d : TypeId) : Bool := (intB P d && intB P s) || (match P.underlying s with
  | some .string => match P.underlying d with
    | some (.slice e) => match P.underlying e with
      | some (.int .u8) => true
      | _ => false
    | _ => false
  | _ => false)
theorem conv_of {P : Program} {s d : TypeId} (h : convB P s d = true) : ConvOk P s d := by
  unfold convB at h
  rw [Bool.or_eq_true] at h
  rcases h with h | h
  · rw [Bool.and_eq_true] at h
    exact .inl ⟨int_of h.1, int_of h.2⟩
  · split at h
    · rename_i e1
      split at h
      · rename_i e e2
        split at h
        · rename_i e3; exact .inr ⟨e1, e, e2, e3⟩
        · cases h
      · cases h
    · cases h
def noIntB (P : Program) (o : Option TypeId) : Bool := match o with
  | some t => match P.underlying t with
    | some (.int _) => false
    | _ => true
  | none => true
theorem noInt_of {P : Program} {o : Option TypeId} (h : noIntB P o = true) : NoInt P o := by
  rintro t k rfl e
  unfold noIntB at h
  dsimp only at h
  rw [e] at h
  cases h
def callB (P : Program) (c : Call) : Bool := c.args.all (goodXB P) && match c.callee with
  | .builtin b => match b with
    | .len => true
    | .copy => true
    | .append => noIntB P c.argTypes[1]? && zargB P c.argTypes[0]?
    | _ => false
  | .invoke x name => goodXB P x && methB P name
  | .value (.func f) => hasB P f
  | _ => false
theorem args_of {P : Program} {xs : Array Operand} (h : xs.all (goodXB P) = true) : ∀ x ∈ xs, GoodX P x := by
  rw [Array.all_eq_true_iff_forall_mem] at h
  exact fun x hx => goodX_of (h x hx)
theorem call_of {P : Program} {c : Call} (h : callB P c = true) : CallOk P c := by
  unfold callB at h
  rw [Bool.and_eq_true] at h
  refine ⟨args_of h.1, ?_⟩
  have h2 := h.2
  cases e : c.callee with
  | builtin b =>
    rw [e] at h2
    cases b <;> first | exact .inl rfl | exact .inr (.inl rfl) | exact .inr (.inr ⟨rfl, noInt_of (Bool.and_eq_true _ _ ▸ h2).1, zarg_of (Bool.and_eq_true _ _ ▸ h2).2⟩) | cases h2
  | invoke x name =>
    rw [e] at h2
    dsimp only at h2
    rw [Bool.and_eq_true] at h2
    exact ⟨goodX_of h2.1, meth_of h2.2⟩
  | value f =>
    rw [e] at h2
    cases f with
    | func f => exact has_of h2
    | _ => cases h2
def optB (P : Program) (o : Option Operand) : Bool := match o with
  | some x => goodXB P x
  | none => true
theorem opt_of {P : Program} {o : Option Operand} (h : optB P o = true) : ∀ y, o = some y → GoodX P y := by
  rintro y rfl
  exact goodX_of h
def partsB (P : Program) (ps : Array (Nat × Operand)) : Bool := ps.toList.all fun p => goodXB P p.2
theorem parts_of {P : Program} {ps : Array (Nat × Operand)} (h : partsB P ps = true) : ∀ p ∈ ps.toList, GoodX P p.2 := by
  unfold partsB at h
  rw [List.all_eq_true] at h
  exact fun p hp => goodX_of (h p hp)
def eqsB : BinOp → Bool
  | .eql => true
  | .neq => true
  | _ => false
def opB (P : Program) (o : Op) : Bool := match o with
  | .move x => goodXB P x
  | .assign x => goodXB P x
  | .pick c a b => goodXB P c && goodXB P a && goodXB P b
  | .alloc t => ztB P t
  | .box _ x => goodXB P x
  | .buildSlice t _ ps => zslB P t && partsB P ps
  | .build t ps => ztB P t && partsB P ps
  | .load _ a => goodXB P a
  | .store _ a x => goodXB P a && goodXB P x
  | .nilCheck x => goodXB P x
  | .binOp op t x y _ => goodXB P x && goodXB P y && (!eqsB op || eqB P t)
  | .unOp _ _ x => goodXB P x
  | .convert s d x => goodXB P x && convB P s d
  | .makeInterface _ x => goodXB P x
  | .makeFunc _ xs ys => xs.all (goodXB P) && ys.all (goodXB P)
  | .makeSlice t l c => goodXB P l && (goodXB P c && zslB P t)
  | .slice _ x a b c => goodXB P x && optB P a && optB P b && optB P c
  | .fieldAddr _ x _ => goodXB P x
  | .indexAddr _ x i => goodXB P x && goodXB P i
  | .extract x _ => goodXB P x
  | .typeAssert x _ a ok => goodXB P x && (ok && ztB P a)
  | .call c => callB P c
  | .send c x => goodXB P c && goodXB P x
  | _ => false
theorem op_of {P : Program} {o : Op} (h : opB P o = true) : OpOk P o := by
  cases o <;> dsimp only [opB] at h <;> first
    | (exfalso; exact Bool.noConfusion h)
    | exact trivial
    | exact goodX_of h
    | exact zt_of h
    | (simp only [Bool.and_eq_true] at h; exact ⟨zsl_of h.1, parts_of h.2⟩)
    | (simp only [Bool.and_eq_true] at h; exact ⟨zt_of h.1, parts_of h.2⟩)
    | (simp only [Bool.and_eq_true] at h; exact ⟨goodX_of h.1, goodX_of h.2.1, zsl_of h.2.2⟩)
    | (simp only [Bool.and_eq_true] at h; exact ⟨goodX_of h.1, h.2.1, zt_of h.2.2⟩)
    | exact call_of h
    | (simp only [Bool.and_eq_true] at h; exact ⟨goodX_of h.1, goodX_of h.2⟩)
    | (simp only [Bool.and_eq_true] at h; exact ⟨goodX_of h.1, conv_of h.2⟩)
    | (simp only [Bool.and_eq_true] at h; exact ⟨args_of h.1, args_of h.2⟩)
    | (simp only [Bool.and_eq_true] at h; exact ⟨goodX_of h.1, h.2⟩)
    | (simp only [Bool.and_eq_true] at h; exact ⟨goodX_of h.1.1, goodX_of h.1.2, goodX_of h.2⟩)
    | (simp only [Bool.and_eq_true] at h; exact ⟨goodX_of h.1.1.1, opt_of h.1.1.2, opt_of h.1.2, opt_of h.2⟩)
    | (rename_i op t x y ty
       simp only [Bool.and_eq_true] at h
       refine ⟨goodX_of h.1.1, goodX_of h.1.2, fun he => ?_⟩
       have h2 := h.2
       have : eqsB op = true := by cases op <;> first | rfl | (rcases he with he | he <;> cases he)
       rw [this] at h2
       exact eq_of (by simpa using h2))
def opsB (P : Program) (ops : List Oper) : Bool := ops.all fun o => opB P o.op
def okCB (P : Program) : Code → Bool
  | .skip => true
  | .label _ => true
  | .exit _ => true
  | .ret => true
  | .seq a b => okCB P a && okCB P b
  | .cond c t e => goodXB P c && okCB P t && okCB P e
  | .block _ b => okCB P b
  | .loop b => okCB P b
  | .scope b => okCB P b
  | .region _ ops _ => opsB P ops.toList
  | _ => false
theorem okC_of {P : Program} : ∀ {c : Code}, okCB P c = true → OkC P c
  | .skip, _ => trivial
  | .label _, _ => trivial
  | .exit _, _ => trivial
  | .ret, _ => trivial
  | .seq a b, h => by
    unfold okCB at h
    rw [Bool.and_eq_true] at h
    exact ⟨okC_of h.1, okC_of h.2⟩
  | .cond c t e, h => by
    unfold okCB at h
    simp only [Bool.and_eq_true] at h
    exact ⟨goodX_of h.1.1, okC_of h.1.2, okC_of h.2⟩
  | .block _ b, h => okC_of (c := b) h
  | .loop b, h => okC_of (c := b) h
  | .scope b, h => okC_of (c := b) h
  | .region _ ops _, h => by
    unfold okCB opsB at h
    rw [List.all_eq_true] at h
    exact fun o ho => op_of (h o (Array.mem_toList_iff.2 ho))
  | .goto _, h => by cases h
  | .rangeFunc .., h => by cases h
  | .refuse _, h => by cases h
def bodyB (P : Program) (f : Nat) : Bool := !wkB f || match P.funcs[f]? with
  | some fn => match fn.body with
    | some c => okCB P c
    | none => true
  | none => true
theorem bodies_of {P : Program} (h : (List.range 81).all (bodyB P) = true) : Bodies P := by
  rw [List.all_eq_true] at h
  intro f hf fn c e1 e2
  have hw : wkB f = true := decide_eq_true (p := 4 ≤ f ∧ f ≤ 11 ∨ f = 14 ∨ f = 15 ∨ 18 ≤ f ∧ f ≤ 41 ∨ f = 79 ∨ f = 80) hf.1
  have hlt : f < 81 := by
    rcases hf.1 with ⟨_, h⟩ | h | h | ⟨_, h⟩ | h | h
    · exact Nat.lt_of_le_of_lt h (by decide)
    · rw [h]; decide
    · rw [h]; decide
    · exact Nat.lt_of_le_of_lt h (by decide)
    · rw [h]; decide
    · rw [h]; decide
  have := h f (List.mem_range.2 hlt)
  unfold bodyB at this
  rw [hw, e1] at this
  dsimp only at this
  rw [e2] at this
  exact okC_of (by simpa using this)
end Go.Proofs.YtgjhmbbbkkidlaaGreatDoor.sim
/-
  The program's tables and texts are so.
  Conditions: none.
-/
namespace Go.Proofs.YtgjhmbbbkkidlaaGreatDoor.sim
open Go
open Go.Proofs
theorem bodies_prog : (List.range 81).all (bodyB Tryz.prog) = true := by kernel_rfl
theorem base : Base Tryz.prog := ⟨bodies_of bodies_prog⟩
end Go.Proofs.YtgjhmbbbkkidlaaGreatDoor.sim
