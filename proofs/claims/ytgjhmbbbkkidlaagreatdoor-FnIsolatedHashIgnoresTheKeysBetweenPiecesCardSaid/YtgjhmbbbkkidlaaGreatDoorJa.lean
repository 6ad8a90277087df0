/-
  Two runs side by side: values, cells, the run lemma, the words and the operations on memory, in the one world and in the other.
  Conditions: none beyond those that each theorem names.
-/
import GoSem.Step
import GoSem.Claim
/-
  Two runs side by side: values, cells, trees of operations that agree up to the numbers of the blocks.
  Conditions: none; no program in sight.
-/
namespace Go.Proofs.YtgjhmbbbkkidlaaGreatDoor.sim
open Go

/-- which block of the one world stands for which of the other (rel), and which of the one's are the goroutine's own (own) -/
structure Rn where
  rel : Nat → Nat → Prop
  own : Nat → Prop
  g0 : Nat
  fn : ∀ a b c, rel a b → rel a c → b = c
  inj : ∀ a b c, rel a c → rel b c → a = b
  low : ∀ a b, rel a b → a < g0 ∨ b < g0 → b = a
def Rn.le (ρ ρ' : Rn) : Prop := (∀ a b, ρ.rel a b → ρ'.rel a b) ∧ (∀ a, ρ.own a → ρ'.own a) ∧ ρ'.g0 = ρ.g0
theorem Rn.le.refl (ρ : Rn) : Rn.le ρ ρ := ⟨fun _ _ h => h, fun _ h => h, rfl⟩
theorem Rn.le.trans {ρ ρ1 ρ2 : Rn} (h : Rn.le ρ ρ1) (g : Rn.le ρ1 ρ2) : Rn.le ρ ρ2 := ⟨fun a b q => g.1 a b (h.1 a b q), fun a q => g.2.1 a (h.2.1 a q), g.2.2.trans h.2.2⟩
def AdR (ρ : Rn) (a a' : Addr) : Prop := ρ.rel a.block a'.block ∧ a'.off = a.off ∧ a'.spot = a.spot
theorem AdR.mono {ρ ρ' : Rn} (h : Rn.le ρ ρ') {a a' : Addr} (g : AdR ρ a a') : AdR ρ' a a' := ⟨h.1 _ _ g.1, g.2⟩
theorem AdR.add {ρ : Rn} {a a' : Addr} (g : AdR ρ a a') (n : Nat) : AdR ρ (a.add n) (a'.add n) := by
  unfold Addr.add
  split
  · exact g
  · exact ⟨g.1, by simp [g.2.1], rfl⟩
/-- what may be a value that the one run never looks at -/
def Jk : Value → Prop
  | .pointer (some _) => True
  | .slice (some _) _ _ => True
  | .complex _ _ _ => True
  | _ => False
inductive VR (ρ : Rn) : Value → Value → Prop
  | bool (b : Bool) : VR ρ (.bool b) (.bool b)
  | int (k : IntKind) (n : Int) : VR ρ (.int k n) (.int k n)
  | float (k : FloatKind) (b : Nat) : VR ρ (.float k b) (.float k b)
  | string (s : ByteArray) : VR ρ (.string s) (.string s)
  | nilPtr : VR ρ (.pointer none) (.pointer none)
  | ptr {a a' : Addr} : AdR ρ a a' → VR ρ (.pointer (some a)) (.pointer (some a'))
  | nilSlice (l c : Nat) : VR ρ (.slice none l c) (.slice none l c)
  | slice {a a' : Addr} (l c : Nat) : (0 < l + c → AdR ρ a a') → VR ρ (.slice (some a) l c) (.slice (some a') l c)
  | map (r : Option Nat) : VR ρ (.map r) (.map r)
  | chan (r : Option Nat) : VR ρ (.chan r) (.chan r)
  | func {fn : Fn} {x x' y y' : Array Value} : x.size = x'.size → (∀ (i : Nat) (v v' : Value), x[i]? = some v → x'[i]? = some v' → VR ρ v v') → y.size = y'.size → (∀ (i : Nat) (v v' : Value), y[i]? = some v → y'[i]? = some v' → VR ρ v v') → VR ρ (.func fn x y) (.func fn x' y')
  | nilFunc : VR ρ .nilFunc .nilFunc
  | iface {t : TypeId} {v v' : Value} : VR ρ v v' → VR ρ (.iface t v) (.iface t v')
  | nilIface : VR ρ .nilIface .nilIface
  | agg {x x' : Array Value} : x.size = x'.size → (∀ (i : Nat) (v v' : Value), x[i]? = some v → x'[i]? = some v' → VR ρ v v') → VR ρ (.agg x) (.agg x')
  | tuple {x x' : Array Value} : x.size = x'.size → (∀ (i : Nat) (v v' : Value), x[i]? = some v → x'[i]? = some v' → VR ρ v v') → VR ρ (.tuple x) (.tuple x')
  /-- a value that the one run never looks at -/
  | junk {v' : Value} : Jk v' → VR ρ (.tuple #[]) v'
/-- arrays of values, place by place -/
def ArR (ρ : Rn) (x x' : Array Value) : Prop := x.size = x'.size ∧ ∀ (i : Nat) (v v' : Value), x[i]? = some v → x'[i]? = some v' → VR ρ v v'
theorem VR.mono {ρ ρ' : Rn} (h : Rn.le ρ ρ') {v v' : Value} (g : VR ρ v v') : VR ρ' v v' := by
  induction g with
  | bool b => exact .bool b
  | int k n => exact .int k n
  | float k b => exact .float k b
  | string s => exact .string s
  | nilPtr => exact .nilPtr
  | ptr a => exact .ptr (a.mono h)
  | nilSlice l c => exact .nilSlice l c
  | slice l c a => exact .slice l c fun p => (a p).mono h
  | map r => exact .map r
  | chan r => exact .chan r
  | func a _ b _ i1 i2 => exact .func a i1 b i2
  | nilFunc => exact .nilFunc
  | iface _ ih => exact .iface ih
  | nilIface => exact .nilIface
  | agg a _ ih => exact .agg a ih
  | tuple a _ ih => exact .tuple a ih
  | junk a => exact .junk a
theorem ArR.mono {ρ ρ' : Rn} (h : Rn.le ρ ρ') {x x' : Array Value} (g : ArR ρ x x') : ArR ρ' x x' := ⟨g.1, fun i v v' a b => (g.2 i v v' a b).mono h⟩
theorem ArR.get {ρ : Rn} {x x' : Array Value} (g : ArR ρ x x') {i : Nat} {v : Value} (h : x[i]? = some v) : ∃ v', x'[i]? = some v' ∧ VR ρ v v' := by
  obtain ⟨hi, _⟩ := Array.getElem?_eq_some_iff.1 h
  have hi2 : i < x'.size := g.1 ▸ hi
  exact ⟨x'[i], Array.getElem?_eq_getElem hi2, g.2 i v _ h (Array.getElem?_eq_getElem hi2)⟩
theorem ArR.none {ρ : Rn} {x x' : Array Value} (g : ArR ρ x x') {i : Nat} (h : x[i]? = none) : x'[i]? = none := by
  rw [Array.getElem?_eq_none_iff] at h ⊢
  have := g.1
  omega
theorem ArR.push {ρ : Rn} {x x' : Array Value} (g : ArR ρ x x') {v v' : Value} (h : VR ρ v v') : ArR ρ (x.push v) (x'.push v') := by
  refine ⟨by simp [g.1], fun i a a' ha ha' => ?_⟩
  rw [Array.getElem?_push] at ha ha'
  rw [← g.1] at ha'
  split at ha
  · rename_i e
    rw [if_pos e] at ha'
    cases ha
    cases ha'
    exact h
  · rename_i e
    rw [if_neg e] at ha'
    exact g.2 i a a' ha ha'
theorem ArR.nil (ρ : Rn) : ArR ρ #[] #[] := ⟨rfl, fun i v v' h => by simp at h⟩
theorem ArR.append {ρ : Rn} {x x' y y' : Array Value} (g : ArR ρ x x') (h : ArR ρ y y') : ArR ρ (x ++ y) (x' ++ y') := by
  refine ⟨by simp [g.1, h.1], fun i a a' ha ha' => ?_⟩
  rw [Array.getElem?_append] at ha ha'
  rw [← g.1] at ha'
  split at ha
  · rename_i e
    rw [if_pos e] at ha'
    exact g.2 i a a' ha ha'
  · rename_i e
    rw [if_neg e] at ha'
    exact h.2 _ a a' ha ha'
theorem ArR.set {ρ : Rn} {x x' : Array Value} (g : ArR ρ x x') (j : Nat) {v v' : Value} (h : VR ρ v v') : ArR ρ (x.setIfInBounds j v) (x'.setIfInBounds j v') := by
  refine ⟨by simp [g.1], fun i a a' ha ha' => ?_⟩
  rw [Array.getElem?_setIfInBounds] at ha ha'
  rw [← g.1] at ha'
  split at ha
  · rename_i e
    rw [if_pos e] at ha'
    split at ha
    · rename_i e2
      rw [if_pos e2] at ha'
      cases ha
      cases ha'
      exact h
    · cases ha
  · rename_i e
    rw [if_neg e] at ha'
    exact g.2 i a a' ha ha'

/-! ### trees of operations -/
/-- a halt of a plain kind: no wait, no end of the whole program by the run-time -/
def Ord : Halt → Prop
  | .panic _ => True
  | .stuck _ => True
  | .exit _ => True
  | .unsupported (.initOrder _) => False
  | .unsupported _ => True
  | _ => False
/-- a tree that never comes to an end -/
def Dead {α : Type} : Sem α → Prop
  | .pure _ => False
  | .load _ _ _ => False
  | .store _ _ _ _ => False
  | .new _ _ => False
  | .shape _ k => ∀ s, Dead (k s)
  | .freeze _ _ _ => False
  | .frozen _ k => ∀ b, Dead (k b)
  | .getObj _ _ => False
  | .setObj _ _ _ => False
  | .choose _ k => ∀ n, Dead (k n)
  | .sys _ _ => False
  | .program k => ∀ p, Dead (k p)
  | .mark _ k => Dead k
  | .halt h => Ord h
theorem Dead.bind {α β : Type} (f : α → Sem β) : ∀ (x : Sem α), Dead x → Dead (x.bind f) := by
  intro x
  induction x with
  | pure a => intro h; exact h.elim
  | load m a k ih => intro h; exact h.elim
  | store m a v k ih => intro h; exact h.elim
  | new o k ih => intro h; exact h.elim
  | shape r k ih => intro h s; exact ih s (h s)
  | freeze a n k ih => intro h; exact h.elim
  | frozen a k ih => intro h s; exact ih s (h s)
  | getObj r k ih => intro h; exact h.elim
  | setObj r o k ih => intro h; exact h.elim
  | choose q k ih => intro h s; exact ih s (h s)
  | sys c k ih => intro h; exact h.elim
  | program k ih => intro h s; exact ih s (h s)
  | mark m k ih => intro h; exact ih h
  | halt e => intro h; exact h
/-- no halt of the tree is a wait for a variable's start -/
def Calm {α : Type} : Sem α → Prop
  | .pure _ => True
  | .load _ _ _ => False
  | .store _ _ _ _ => False
  | .new _ _ => False
  | .shape _ k => ∀ s, Calm (k s)
  | .freeze _ _ _ => False
  | .frozen _ k => ∀ b, Calm (k b)
  | .getObj _ _ => False
  | .setObj _ _ _ => False
  | .choose _ k => ∀ n, Calm (k n)
  | .sys _ _ => False
  | .program k => ∀ p, Calm (k p)
  | .mark _ k => Calm k
  | .halt h => Ord h
/-- behind a calm tree -/
theorem Dead.behind {α β : Type} {f : α → Sem β} (h : ∀ a, Dead (f a)) : ∀ (x : Sem α), Calm x → Dead (x.bind f) := by
  intro x
  induction x with
  | pure a => intro _; exact h a
  | load m a k ih => intro h; exact h.elim
  | store m a v k ih => intro h; exact h.elim
  | new o k ih => intro h; exact h.elim
  | shape r k ih => intro c s; exact ih s (c s)
  | freeze a n k ih => intro h; exact h.elim
  | frozen a k ih => intro c s; exact ih s (c s)
  | getObj r k ih => intro h; exact h.elim
  | setObj r o k ih => intro h; exact h.elim
  | choose q k ih => intro c s; exact ih s (c s)
  | sys c k ih => intro h; exact h.elim
  | program k ih => intro c s; exact ih s (c s)
  | mark m k ih => intro c; exact ih c
  | halt e => intro c; exact c
/-- what a goroutine makes anew: a row of cells, or a number that stands for an address -/
inductive ObR (ρ : Rn) : Obj → Obj → Prop
  | cells {c c' : Array Value} (e : TypeId) : ArR ρ c c' → ObR ρ (.cells c e (0, 0)) (.cells c' e (0, 0))
  | number {a a' : Addr} (l : Bool) : AdR ρ a a' → ObR ρ (.number a l) (.number a' l)
theorem ObR.mono {ρ ρ' : Rn} (h : Rn.le ρ ρ') {o o' : Obj} (g : ObR ρ o o') : ObR ρ' o o' := by
  cases g with
  | cells e a => exact .cells e (a.mono h)
  | number l a => exact .number l (a.mono h)
variable (P : Program)
/-- the tree y does what the tree x does, up to the blocks' numbers; RR: what the results have in common -/
def TR {α β : Type} (RR : Rn → α → β → Prop) : Rn → Sem α → Sem β → Prop
  | ρ, .pure a, y => ∃ b, y = .pure b ∧ RR ρ a b
  | ρ, .load m a k, y => m = .plain ∧ ∃ a' k', y = .load m a' k' ∧ AdR ρ a a' ∧ ∀ ρ' v v', Rn.le ρ ρ' → VR ρ' v v' → TR RR ρ' (k v) (k' v')
  | ρ, .store m a v k, y => m = .plain ∧ ∃ a' v' k', y = .store m a' v' k' ∧ AdR ρ a a' ∧ VR ρ v v' ∧ ∀ ρ', Rn.le ρ ρ' → TR RR ρ' k k'
  | ρ, .new o k, y => ∃ o' k', y = .new o' k' ∧ ObR ρ o o' ∧ ∀ ρ' r r', Rn.le ρ ρ' → ρ'.rel r r' → ρ'.own r → TR RR ρ' (k r) (k' r')
  | ρ, .shape r k, y => Dead (.shape r k) ∨ ∃ r' k', y = .shape r' k' ∧ ρ.rel r r' ∧ (∀ ρ' t n n', Rn.le ρ ρ' → n ≤ n' → (ρ'.own r → n' = n) → TR RR ρ' (k (some (t, n))) (k' (some (t, n')))) ∧ ∀ ρ', Rn.le ρ ρ' → TR RR ρ' (k none) (k' none)
  | ρ, .freeze a n k, y => ∃ a' k', y = .freeze a' n k' ∧ AdR ρ a a' ∧ ρ.own a.block ∧ ∀ ρ', Rn.le ρ ρ' → TR RR ρ' k k'
  | ρ, .frozen _ k, y => ∃ a' k', y = .frozen a' k' ∧ ∀ ρ' s s', Rn.le ρ ρ' → TR RR ρ' (k s) (k' s')
  | ρ, .getObj r k, y => (∀ a l, Dead (k (.number a l))) ∨ ∃ r' k', y = .getObj r' k' ∧ ρ.rel r r' ∧ ∀ ρ' a a' l, Rn.le ρ ρ' → AdR ρ' a a' → TR RR ρ' (k (.number a l)) (k' (.number a' l))
  | _, .setObj _ _ _, _ => False
  | ρ, .choose q k, y => ∃ k', y = .choose q k' ∧ ∀ ρ' n, Rn.le ρ ρ' → TR RR ρ' (k n) (k' n)
  | _, .sys _ _, _ => False
  | ρ, .program k, y => Dead (k P) ∨ ∃ k', y = .program k' ∧ ∀ ρ', Rn.le ρ ρ' → TR RR ρ' (k P) (k' P)
  | ρ, .mark m k, y => Dead k ∨ m = .noRoom ∧ ∃ k', y = .mark m k' ∧ ∀ ρ', Rn.le ρ ρ' → TR RR ρ' k k'
  | _, .halt h, _ => Ord h
end Go.Proofs.YtgjhmbbbkkidlaaGreatDoor.sim
/-
  Two runs side by side: the tree's run in the one world has its like in the other.
  Conditions: none; no program in sight.
-/
namespace Go.Proofs.YtgjhmbbbkkidlaaGreatDoor.sim
open Go

section
variable {P : Program} {α β γ δ : Type} {RR : Rn → α → β → Prop} {SS : Rn → γ → δ → Prop}
def Mono (RR : Rn → α → β → Prop) : Prop := ∀ ρ ρ' a b, Rn.le ρ ρ' → RR ρ a b → RR ρ' a b
theorem TR.mono (hR : Mono RR) : ∀ (x : Sem α) (y : Sem β) {ρ ρ' : Rn}, Rn.le ρ ρ' → TR P RR ρ x y → TR P RR ρ' x y := by
  intro x y ρ ρ' h g
  cases x with
  | pure a => obtain ⟨b, e, r⟩ := g; exact ⟨b, e, hR _ _ _ _ h r⟩
  | load m a k => obtain ⟨e, a', k', e1, r, q⟩ := g; exact ⟨e, a', k', e1, r.mono h, fun ρ2 v v' l => q ρ2 v v' (h.trans l)⟩
  | store m a v k => obtain ⟨e, a', v', k', e1, r, s, q⟩ := g; exact ⟨e, a', v', k', e1, r.mono h, s.mono h, fun ρ2 l => q ρ2 (h.trans l)⟩
  | new o k => obtain ⟨o', k', e2, r, q⟩ := g; exact ⟨o', k', e2, r.mono h, fun ρ2 r r' l => q ρ2 r r' (h.trans l)⟩
  | shape r k => rcases g with g | ⟨r', k', e1, c, q, q2⟩; · exact .inl g
                 exact .inr ⟨r', k', e1, h.1 _ _ c, fun ρ2 t n n' l => q ρ2 t n n' (h.trans l), fun ρ2 l => q2 ρ2 (h.trans l)⟩
  | freeze a n k => obtain ⟨a', k', e1, c, o, q⟩ := g; exact ⟨a', k', e1, c.mono h, h.2.1 _ o, fun ρ2 l => q ρ2 (h.trans l)⟩
  | frozen a k => obtain ⟨r', k', e1, q⟩ := g; exact ⟨r', k', e1, fun ρ2 s s' l => q ρ2 s s' (h.trans l)⟩
  | getObj r k => rcases g with g | ⟨r', k', e1, c, q⟩; · exact .inl g
                  exact .inr ⟨r', k', e1, h.1 _ _ c, fun ρ2 a a' b l => q ρ2 a a' b (h.trans l)⟩
  | setObj r o k => exact g.elim
  | choose q k => obtain ⟨k', e1, q⟩ := g; exact ⟨k', e1, fun ρ2 n l => q ρ2 n (h.trans l)⟩
  | sys c k => exact g.elim
  | program k => rcases g with g | ⟨k', e1, q⟩; · exact .inl g
                 exact .inr ⟨k', e1, fun ρ2 l => q ρ2 (h.trans l)⟩
  | mark m k => rcases g with g | ⟨e, k', e1, q⟩; · exact .inl g
                exact .inr ⟨e, k', e1, fun ρ2 l => q ρ2 (h.trans l)⟩
  | halt h => exact g
theorem TR.imp {RR2 : Rn → α → β → Prop} (hi : ∀ ρ a b, RR ρ a b → RR2 ρ a b) : ∀ (x : Sem α) (y : Sem β) {ρ : Rn}, TR P RR ρ x y → TR P RR2 ρ x y := by
  intro x
  induction x with
  | pure a => intro y ρ g; obtain ⟨b, e, r⟩ := g; exact ⟨b, e, hi _ _ _ r⟩
  | load m a k ih => intro y ρ g; obtain ⟨e, a', k', e1, r, q⟩ := g; exact ⟨e, a', k', e1, r, fun ρ2 v v' l s => ih v _ (q ρ2 v v' l s)⟩
  | store m a v k ih => intro y ρ g; obtain ⟨e, a', v', k', e1, r, s, q⟩ := g; exact ⟨e, a', v', k', e1, r, s, fun ρ2 l => ih _ (q ρ2 l)⟩
  | new o k ih => intro y ρ g; obtain ⟨o', k', e2, r, q⟩ := g; exact ⟨o', k', e2, r, fun ρ2 r r' l s w => ih r _ (q ρ2 r r' l s w)⟩
  | shape r k ih => intro y ρ g; rcases g with g | ⟨r', k', e1, c, q, q2⟩; · exact .inl g
                    exact .inr ⟨r', k', e1, c, fun ρ2 t n n' l s w => ih _ _ (q ρ2 t n n' l s w), fun ρ2 l => ih _ _ (q2 ρ2 l)⟩
  | freeze a n k ih => intro y ρ g; obtain ⟨a', k', e1, c, o, q⟩ := g; exact ⟨a', k', e1, c, o, fun ρ2 l => ih _ (q ρ2 l)⟩
  | frozen a k ih => intro y ρ g; obtain ⟨r', k', e1, q⟩ := g; exact ⟨r', k', e1, fun ρ2 s s' l => ih s _ (q ρ2 s s' l)⟩
  | getObj r k ih => intro y ρ g; rcases g with g | ⟨r', k', e1, c, q⟩; · exact .inl g
                     exact .inr ⟨r', k', e1, c, fun ρ2 a a' b l s => ih _ _ (q ρ2 a a' b l s)⟩
  | setObj r o k ih => intro y ρ g; exact g.elim
  | choose q k ih => intro y ρ g; obtain ⟨k', e1, q⟩ := g; exact ⟨k', e1, fun ρ2 n l => ih n _ (q ρ2 n l)⟩
  | sys c k ih => intro y ρ g; exact g.elim
  | program k ih => intro y ρ g; rcases g with g | ⟨k', e1, q⟩; · exact .inl g
                    exact .inr ⟨k', e1, fun ρ2 l => ih P _ (q ρ2 l)⟩
  | mark m k ih => intro y ρ g; rcases g with g | ⟨e, k', e1, q⟩; · exact .inl g
                   exact .inr ⟨e, k', e1, fun ρ2 l => ih _ (q ρ2 l)⟩
  | halt h => intro y ρ g; exact g
/-- one tree behind another -/
theorem TR.bind {f : α → Sem γ} {g : β → Sem δ} : ∀ (x : Sem α) (y : Sem β) {ρ : Rn}, TR P RR ρ x y → (∀ ρ' a b, Rn.le ρ ρ' → RR ρ' a b → TR P SS ρ' (f a) (g b)) → TR P SS ρ (x.bind f) (y.bind g) := by
  intro x
  induction x with
  | pure a => intro y ρ h k; obtain ⟨b, rfl, r⟩ := h; exact k ρ a b (Rn.le.refl _) r
  | load m a c ih => intro y ρ h k; obtain ⟨e, a', c', rfl, r, q⟩ := h; exact ⟨e, a', _, rfl, r, fun ρ2 v v' l s => ih v _ (q ρ2 v v' l s) fun ρ3 a b l3 => k ρ3 a b (l.trans l3)⟩
  | store m a v c ih => intro y ρ h k; obtain ⟨e, a', v', c', rfl, r, s, q⟩ := h; exact ⟨e, a', v', _, rfl, r, s, fun ρ2 l => ih _ (q ρ2 l) fun ρ3 a b l3 => k ρ3 a b (l.trans l3)⟩
  | new o c ih => intro y ρ h k; obtain ⟨o', c', rfl, r, q⟩ := h; exact ⟨o', _, rfl, r, fun ρ2 r r' l s w => ih r _ (q ρ2 r r' l s w) fun ρ3 a b l3 => k ρ3 a b (l.trans l3)⟩
  | shape r c ih => intro y ρ h k; rcases h with h | ⟨r', c', rfl, z, q, q2⟩; · exact .inl (Dead.bind _ _ h)
                    exact .inr ⟨r', _, rfl, z, fun ρ2 t n n' l s w => ih _ _ (q ρ2 t n n' l s w) fun ρ3 a b l3 => k ρ3 a b (l.trans l3), fun ρ2 l => ih _ _ (q2 ρ2 l) fun ρ3 a b l3 => k ρ3 a b (l.trans l3)⟩
  | freeze a n c ih => intro y ρ h k; obtain ⟨a', c', rfl, z, o, q⟩ := h; exact ⟨a', _, rfl, z, o, fun ρ2 l => ih _ (q ρ2 l) fun ρ3 a b l3 => k ρ3 a b (l.trans l3)⟩
  | frozen a c ih => intro y ρ h k; obtain ⟨r', c', rfl, q⟩ := h; exact ⟨r', _, rfl, fun ρ2 s s' l => ih s _ (q ρ2 s s' l) fun ρ3 a b l3 => k ρ3 a b (l.trans l3)⟩
  | getObj r c ih => intro y ρ h k; rcases h with h | ⟨r', c', rfl, z, q⟩; · exact .inl fun a l => Dead.bind _ _ (h a l)
                     exact .inr ⟨r', _, rfl, z, fun ρ2 a a' b l s => ih _ _ (q ρ2 a a' b l s) fun ρ3 a b l3 => k ρ3 a b (l.trans l3)⟩
  | setObj r o c ih => intro y ρ h k; exact h.elim
  | choose q c ih => intro y ρ h k; obtain ⟨c', rfl, q⟩ := h; exact ⟨_, rfl, fun ρ2 n l => ih n _ (q ρ2 n l) fun ρ3 a b l3 => k ρ3 a b (l.trans l3)⟩
  | sys s c ih => intro y ρ h k; exact h.elim
  | program c ih => intro y ρ h k; rcases h with h | ⟨c', rfl, q⟩; · exact .inl (Dead.bind _ _ h)
                    exact .inr ⟨_, rfl, fun ρ2 l => ih P _ (q ρ2 l) fun ρ3 a b l3 => k ρ3 a b (l.trans l3)⟩
  | mark m c ih => intro y ρ h k; rcases h with h | ⟨e, c', rfl, q⟩; · exact .inl (Dead.bind _ _ h)
                   exact .inr ⟨e, _, rfl, fun ρ2 l => ih _ (q ρ2 l) fun ρ3 a b l3 => k ρ3 a b (l.trans l3)⟩
  | halt e => intro y ρ h k; exact h
end

/-! ### two worlds -/
/-- cells of v's block stand for the first cells of w's -/
def CR (ρ : Rn) (c c' : Array Value) : Prop := c.size ≤ c'.size ∧ ∀ (i : Nat) (v : Value), c[i]? = some v → ∃ v', c'[i]? = some v' ∧ VR ρ v v'
/-- every one of the n cells is frozen -/
def Ice (fr : Nat × Nat) (n : Nat) : Prop := ∀ i, i < n → fr.1 ≤ i ∧ i < fr.2
/-- two rows of cells -/
def BlkC (ρ : Rn) (v w : World) (b b' : Nat) : Prop := ∃ c e fr c' fr', v.heap[b]? = some (Obj.cells c e fr) ∧ w.heap[b']? = some (Obj.cells c' e fr') ∧ CR ρ c c' ∧ ((ρ.own b ∧ fr' = fr ∧ c'.size = c.size) ∨ (¬ ρ.own b ∧ Ice fr c.size))
/-- two numbers that stand for addresses -/
def BlkN (ρ : Rn) (v w : World) (b b' : Nat) : Prop := ∃ a a' l, v.heap[b]? = some (Obj.number a l) ∧ w.heap[b']? = some (Obj.number a' l) ∧ AdR ρ a a' ∧ ρ.own b
def Blk (ρ : Rn) (v w : World) (b b' : Nat) : Prop := BlkC ρ v w b b' ∨ BlkN ρ v w b b'
structure WR (ρ : Rn) (v w : World) : Prop where
  rng : ∀ b b', ρ.rel b b' → Blk ρ v w b b'
  g0 : ρ.g0 ≤ v.heap.size ∧ ρ.g0 ≤ w.heap.size
  own : ∀ b, ρ.own b → ∃ b', ρ.rel b b'
  only : ∀ b : Nat, v.heap[b]? = none ∨ (∃ c e fr, v.heap[b]? = some (Obj.cells c e fr)) ∨ ∃ a l, ρ.own b ∧ v.heap[b]? = some (Obj.number a l)
  tape : ∀ i q, v.tape (v.drawn + i) q = w.tape (w.drawn + i) q
/-- what one step of the one world's goroutine does to the other world: it writes its own blocks and makes new ones -/
structure Did (ρ ρ' : Rn) (v v' w w' : World) : Prop where
  le : Rn.le ρ ρ'
  os : w'.os = w.os
  tape : w'.tape = w.tape
  output : w'.output = w.output
  size : w.heap.size ≤ w'.heap.size
  vsize : v.heap.size ≤ v'.heap.size
  fresh : ∀ b b', ρ'.rel b b' → ρ.rel b b' ∨ (v.heap.size ≤ b ∧ w.heap.size ≤ b')
  fown : ∀ b, ρ'.own b → ρ.own b ∨ v.heap.size ≤ b
  keep : ∀ a x, v.cell? a = some x → ∃ x', v'.cell? a = some x'
  same : ∀ b', b' < w.heap.size → w'.heap[b']? ≠ w.heap[b']? → ∃ b, ρ.own b ∧ ρ.rel b b'
  news : ∀ b b', ρ'.rel b b' → ρ.rel b b' ∨ ρ'.own b
  vsame : ∀ b, b < v.heap.size → ¬ ρ.own b → v'.heap[b]? = v.heap[b]?
/-- an access that the trace lists: of a cell that v has, a write of the goroutine's own -/
def EvR (ρ : Rn) (v : World) (e : Event) : Prop :=
  (e.sync = false ∧ ∃ a a', e.loc = .cell a' ∧ AdR ρ a a' ∧ (∃ x, v.cell? a = some x) ∧ (e.write = true → ρ.own a.block)) ∨ (e.write = false ∧ e.sync = false ∧ ∃ b b', e.loc = .obj b' ∧ ρ.rel b b' ∧ ρ.own b) ∨ e.loc = .mark .noRoom
theorem WR.lt {ρ : Rn} {v w : World} (h : WR ρ v w) {b b' : Nat} (r : ρ.rel b b') : b < v.heap.size ∧ b' < w.heap.size := by
  rcases h.rng b b' r with ⟨c, e, fr, c', fr', h1, h2, _⟩ | ⟨a, a', l, h1, h2, _⟩ <;>
  exact ⟨(Array.getElem?_eq_some_iff.1 h1).1, (Array.getElem?_eq_some_iff.1 h2).1⟩
theorem Did.refl (ρ : Rn) (v w : World) : Did ρ ρ v v w w :=
  ⟨Rn.le.refl _, rfl, rfl, rfl, Nat.le_refl _, Nat.le_refl _, fun _ _ h => .inl h, fun _ h => .inl h, fun _ x h => ⟨x, h⟩, fun _ _ h => (h rfl).elim, fun _ _ h => .inl h, fun _ _ _ => rfl⟩
theorem Did.trans {ρ ρ1 ρ2 : Rn} {v v1 v2 w w1 w2 : World} (hw : WR ρ v w) (h1 : WR ρ1 v1 w1) (h : Did ρ ρ1 v v1 w w1) (g : Did ρ1 ρ2 v1 v2 w1 w2) : Did ρ ρ2 v v2 w w2 := by
  refine ⟨h.le.trans g.le, g.os.trans h.os, g.tape.trans h.tape, g.output.trans h.output, Nat.le_trans h.size g.size, Nat.le_trans h.vsize g.vsize, fun b b' r => ?_, fun b r => ?_, fun a x hx => (h.keep a x hx).elim fun x' hx' => g.keep a x' hx', fun b' l ne => ?_, fun b b' r => ?_, fun b l o => (g.vsame b (Nat.lt_of_lt_of_le l h.vsize) fun o1 => (h.fown b o1).elim o fun l2 => by omega).trans (h.vsame b l o)⟩
  rotate_left 3
  · rcases g.news b b' r with r | o
    · rcases h.news b b' r with r | o
      · exact .inl r
      · exact .inr (g.le.2.1 _ o)
    · exact .inr o
  · rcases g.fresh b b' r with r | ⟨l1, l2⟩
    · exact h.fresh b b' r
    · exact .inr ⟨Nat.le_trans h.vsize l1, Nat.le_trans h.size l2⟩
  · rcases g.fown b r with r | l1
    · exact h.fown b r
    · exact .inr (Nat.le_trans h.vsize l1)
  · by_cases e : w1.heap[b']? = w.heap[b']?
    · obtain ⟨b, o, r⟩ := g.same b' (Nat.lt_of_lt_of_le l h.size) (by rw [e]; exact ne)
      rcases h.fresh b b' r with r' | ⟨_, l2⟩
      · rcases h.fown b o with o' | l3
        · exact ⟨b, o', r'⟩
        · have := (hw.lt r').1
          omega
      · omega
    · exact h.same b' l e
end Go.Proofs.YtgjhmbbbkkidlaaGreatDoor.sim
/-
  Two runs side by side: the run lemma.
  Conditions: none; no program in sight.
-/
namespace Go.Proofs.YtgjhmbbbkkidlaaGreatDoor.sim
open Go

theorem EvR.mono {ρ ρ' : Rn} {v v' w w' : World} (h : Did ρ ρ' v v' w w') {e : Event} (g : EvR ρ v e) : EvR ρ' v' e := by
  rcases g with ⟨s, a, a', l, r, ⟨x, hx⟩, o⟩ | ⟨w, s, b, b', l, r, o⟩ | g
  · exact .inl ⟨s, a, a', l, r.mono h.le, h.keep a x hx, fun q => h.le.2.1 _ (o q)⟩
  · exact .inr (.inl ⟨w, s, b, b', l, h.le.1 _ _ r, h.le.2.1 _ o⟩)
  · exact .inr (.inr g)
theorem ArR.cr {ρ : Rn} {c c' : Array Value} (h : ArR ρ c c') : CR ρ c c' := ⟨Nat.le_of_eq h.1, fun i v hv => h.get hv⟩
theorem CR.mono {ρ ρ' : Rn} (h : Rn.le ρ ρ') {c c' : Array Value} (g : CR ρ c c') : CR ρ' c c' :=
  ⟨g.1, fun i v hv => let ⟨v', a, b⟩ := g.2 i v hv; ⟨v', a, b.mono h⟩⟩
theorem CR.set {ρ : Rn} {c c' : Array Value} (g : CR ρ c c') (j : Nat) {v v' : Value} (h : VR ρ v v') : CR ρ (c.setIfInBounds j v) (c'.setIfInBounds j v') := by
  refine ⟨by simpa using g.1, fun i a ha => ?_⟩
  rw [Array.getElem?_setIfInBounds] at ha
  have hs := g.1
  by_cases e : j = i
  · rw [if_pos e] at ha
    split at ha
    · cases ha
      refine ⟨v', ?_, h⟩
      rw [Array.getElem?_setIfInBounds, if_pos e, if_pos (by omega)]
    · cases ha
  · rw [if_neg e] at ha
    obtain ⟨a', h1, h2⟩ := g.2 i a ha
    exact ⟨a', by rw [Array.getElem?_setIfInBounds, if_neg e]; exact h1, h2⟩
/-- a cell of v's and its like in w -/
theorem WR.cell {ρ : Rn} {v w : World} (h : WR ρ v w) {a a' : Addr} (r : AdR ρ a a') {x : Value} (hx : v.cell? a = some x) : ∃ x', w.cell? a' = some x' ∧ VR ρ x x' := by
  rcases h.rng _ _ r.1 with ⟨c, e, fr, c', fr', h1, h2, h3, _⟩ | ⟨_, _, _, h1, _⟩
  rotate_left
  · unfold World.cell? at hx
    rw [h1] at hx
    cases hx
  unfold World.cell? at hx ⊢
  rw [h1] at hx
  rw [h2]
  simp only [r.2.2, r.2.1] at hx ⊢
  split at hx
  · cases hx
  · rename_i e2
    obtain ⟨x', h4, h5⟩ := h3.2 _ _ hx
    exact ⟨x', by rw [if_neg e2]; exact h4, h5⟩
/-- a cell that may be written lies in a block of the goroutine's own -/
theorem WR.warm {ρ : Rn} {v w : World} (h : WR ρ v w) {a a' : Addr} (r : AdR ρ a a') {x : Value} (hx : v.cell? a = some x) (hf : v.frozen? a = false) : ρ.own a.block ∧ w.frozen? a' = false := by
  rcases h.rng _ _ r.1 with ⟨c, e, fr, c', fr', h1, h2, h3, h4⟩ | ⟨_, _, _, h1, _⟩
  rotate_left
  · unfold World.cell? at hx
    rw [h1] at hx
    cases hx
  unfold World.cell? at hx
  unfold World.frozen? at hf ⊢
  rw [h1] at hx hf
  rw [h2]
  rcases h4 with ⟨o, e1, e2⟩ | ⟨o, ice⟩
  · refine ⟨o, ?_⟩
    rw [r.2.1, e1]
    exact hf
  · exfalso
    simp only at hx
    split at hx
    · cases hx
    · have := ice a.off (Array.getElem?_eq_some_iff.1 hx).1
      simp [this.1, this.2] at hf
theorem setCell_heap (v : World) (a : Addr) (x : Value) (b : Nat) : (v.setCell a x).heap[b]? = if a.block = b then (v.heap[b]?).map (fun
      | .cells c elem frozen => .cells (if a.spot.isSome then c else c.setIfInBounds a.off x) elem frozen
      | o => o) else v.heap[b]? := by
  show (v.heap.modify a.block _)[b]? = _
  rw [Array.getElem?_modify]
  rfl
theorem setCell_size (v : World) (a : Addr) (x : Value) : (v.setCell a x).heap.size = v.heap.size := by
  show (v.heap.modify a.block _).size = _
  rw [Array.size_modify]
theorem WR.set {ρ : Rn} {v w : World} (h : WR ρ v w) {a a' : Addr} (r : AdR ρ a a') {x x' : Value} (hv : VR ρ x x') : WR ρ (v.setCell a x) (w.setCell a' x') := by
  refine ⟨fun b b' rr => ?_, by rw [setCell_size, setCell_size]; exact h.g0, h.own, fun b => ?_, h.tape⟩
  · rcases h.rng _ _ rr with ⟨c, e, fr, c', fr', h1, h2, h3, h4⟩ | ⟨n, n', l, h1, h2, h3⟩
    rotate_left
    · refine .inr ⟨n, n', l, ?_, ?_, h3⟩
      · rw [setCell_heap, h1]
        split <;> rfl
      · rw [setCell_heap, h2]
        split <;> rfl
    refine .inl ?_
    unfold BlkC
    rw [setCell_heap, setCell_heap]
    by_cases e1 : a.block = b
    · have e2 : a'.block = b' := ρ.fn _ _ _ (e1 ▸ r.1) rr
      rw [if_pos e1, if_pos e2, h1, h2]
      refine ⟨if a.spot.isSome then c else c.setIfInBounds a.off x, e, fr, if a'.spot.isSome then c' else c'.setIfInBounds a'.off x', fr', rfl, rfl, ?_, ?_⟩
      · rw [r.2.1, r.2.2]
        split
        · exact h3
        · exact h3.set _ hv
      · rw [r.2.1, r.2.2]
        split
        · exact h4
        · simpa using h4
    · have e2 : a'.block ≠ b' := fun e2 => e1 (ρ.inj _ _ _ (e2 ▸ r.1) rr)
      rw [if_neg e1, if_neg e2]
      exact ⟨c, e, fr, c', fr', h1, h2, h3, h4⟩
  · rw [setCell_heap]
    split
    · rcases h.only b with o | ⟨c, e, fr, o⟩ | ⟨n, l, oo, o⟩
      · exact .inl (by rw [o]; rfl)
      · exact .inr (.inl ⟨_, _, _, by rw [o]; rfl⟩)
      · exact .inr (.inr ⟨_, _, oo, by rw [o]; rfl⟩)
    · exact h.only b
theorem cell_some {v : World} {b : Addr} {y : Value} (h : v.cell? b = some y) : ∃ c e fr, v.heap[b.block]? = some (Obj.cells c e fr) ∧ b.spot.isSome = false ∧ c[b.off]? = some y := by
  unfold World.cell? at h
  split at h
  · rename_i hh
    split at h
    · cases h
    · rename_i hs
      exact ⟨_, _, _, hh, by simpa using hs, h⟩
  · cases h
theorem some_cell {v : World} {b : Addr} {y : Value} {c : Array Value} {e : TypeId} {fr : Nat × Nat} (h1 : v.heap[b.block]? = some (Obj.cells c e fr)) (h2 : b.spot.isSome = false) (h3 : c[b.off]? = some y) : v.cell? b = some y := by
  unfold World.cell?
  rw [h1]
  simp only
  rw [if_neg (by simp [h2])]
  exact h3
theorem setCell_keep (v : World) (a : Addr) (x : Value) (b : Addr) (y : Value) (hy : v.cell? b = some y) : ∃ y', (v.setCell a x).cell? b = some y' := by
  obtain ⟨c, e, fr, h1, h2, h3⟩ := cell_some hy
  have hl := (Array.getElem?_eq_some_iff.1 h3).1
  by_cases e1 : a.block = b.block
  · have h4 : (v.setCell a x).heap[b.block]? = some (Obj.cells (if a.spot.isSome then c else c.setIfInBounds a.off x) e fr) := by
      rw [setCell_heap, if_pos e1, h1]
      rfl
    have h5 : ∃ y', (if a.spot.isSome then c else c.setIfInBounds a.off x)[b.off]? = some y' := by
      split
      · exact ⟨y, h3⟩
      · rw [Array.getElem?_setIfInBounds]
        split
        · rename_i e2
          rw [if_pos (by omega)]
          exact ⟨x, rfl⟩
        · exact ⟨y, h3⟩
    obtain ⟨y', h5⟩ := h5
    exact ⟨y', some_cell h4 h2 h5⟩
  · exact ⟨y, some_cell (by rw [setCell_heap, if_neg e1]; exact h1) h2 h3⟩
theorem Did.set {ρ : Rn} {v w : World} {a a' : Addr} (r : AdR ρ a a') (o : ρ.own a.block) (x x' : Value) : Did ρ ρ v (v.setCell a x) w (w.setCell a' x') := by
  refine ⟨Rn.le.refl _, rfl, rfl, rfl, Nat.le_of_eq (setCell_size _ _ _).symm, Nat.le_of_eq (setCell_size _ _ _).symm, fun _ _ h => .inl h, fun _ h => .inl h, setCell_keep v a x, fun b' l ne => ?_, fun _ _ h => .inl h, fun b l no => ?_⟩
  · rw [setCell_heap] at ne
    split at ne
    · rename_i e
      exact ⟨a.block, o, e ▸ r.1⟩
    · exact (ne rfl).elim
  · rw [setCell_heap]
    split
    · rename_i e
      exact (no (e ▸ o)).elim
    · rfl
/-- a new block on both sides -/
def Rn.add (ρ : Rn) (b b' : Nat) (h1 : ∀ x, ¬ ρ.rel b x) (h2 : ∀ x, ¬ ρ.rel x b') (h3 : ρ.g0 ≤ b ∧ ρ.g0 ≤ b') : Rn where
  rel := fun x y => ρ.rel x y ∨ (x = b ∧ y = b')
  own := fun x => ρ.own x ∨ x = b
  g0 := ρ.g0
  fn := by
    rintro a c d (h | ⟨rfl, rfl⟩) (g | ⟨e, rfl⟩)
    · exact ρ.fn _ _ _ h g
    · subst e; exact (h1 _ h).elim
    · exact (h1 _ g).elim
    · rfl
  inj := by
    rintro a c d (h | ⟨rfl, rfl⟩) (g | ⟨rfl, e⟩)
    · exact ρ.inj _ _ _ h g
    · subst e; exact (h2 _ h).elim
    · exact (h2 _ g).elim
    · rfl
  low := by
    rintro a c (h | ⟨rfl, rfl⟩) l
    · exact ρ.low _ _ h l
    · omega
theorem Rn.le_add (ρ : Rn) (b b' : Nat) (h1 h2 h3) : Rn.le ρ (ρ.add b b' h1 h2 h3) := ⟨fun _ _ h => .inl h, fun _ h => .inl h, rfl⟩
/-- the relation with the block that both worlds make next -/
def WR.nx {ρ : Rn} {v w : World} (h : WR ρ v w) : Rn := ρ.add v.heap.size w.heap.size (fun x r => by have := (h.lt r).1; omega) (fun x r => by have := (h.lt r).2; omega) h.g0
theorem WR.le_nx {ρ : Rn} {v w : World} (h : WR ρ v w) : Rn.le ρ h.nx := ρ.le_add _ _ _ _ _
theorem WR.new {ρ : Rn} {v w : World} (h : WR ρ v w) {o o' : Obj} (hc : ObR ρ o o') :
    WR h.nx { v with heap := v.heap.push o } { w with heap := w.heap.push o' } := by
  refine ⟨fun b b' rr => ?_, ?_, fun b o => ?_, fun b => ?_, h.tape⟩
  · rcases rr with rr | ⟨rfl, rfl⟩
    · have hl := h.lt rr
      have p1 : ∀ x, v.heap[b]? = x → (v.heap.push o)[b]? = x := fun x hx => by
        rw [Array.getElem?_push, if_neg (by omega)]
        exact hx
      have p2 : ∀ x, w.heap[b']? = x → (w.heap.push o')[b']? = x := fun x hx => by
        rw [Array.getElem?_push, if_neg (by omega)]
        exact hx
      rcases h.rng _ _ rr with ⟨c1, e1, fr, c1', fr', h1, h2, h3, h4⟩ | ⟨n, n', l, h1, h2, h3, h4⟩
      · refine .inl ⟨c1, e1, fr, c1', fr', p1 _ h1, p2 _ h2, h3.mono h.le_nx, ?_⟩
        rcases h4 with ⟨o, q⟩ | ⟨o, q⟩
        · exact .inl ⟨.inl o, q⟩
        · refine .inr ⟨?_, q⟩
          rintro (o' | o')
          · exact o o'
          · omega
      · exact .inr ⟨n, n', l, p1 _ h1, p2 _ h2, h3.mono h.le_nx, .inl h4⟩
    · have p1 : (v.heap.push o)[v.heap.size]? = some o := by rw [Array.getElem?_push, if_pos rfl]
      have p2 : (w.heap.push o')[w.heap.size]? = some o' := by rw [Array.getElem?_push, if_pos rfl]
      cases hc with
      | cells e hc => exact .inl ⟨_, e, (0, 0), _, (0, 0), p1, p2, (hc.mono h.le_nx).cr, .inl ⟨.inr rfl, rfl, hc.1.symm⟩⟩
      | number l ha => exact .inr ⟨_, _, l, p1, p2, ha.mono h.le_nx, .inr rfl⟩
  · show ρ.g0 ≤ (v.heap.push _).size ∧ ρ.g0 ≤ (w.heap.push _).size
    have := h.g0
    simp
    omega
  · rcases o with o | o
    · obtain ⟨b', r⟩ := h.own b o
      exact ⟨b', .inl r⟩
    · exact ⟨w.heap.size, .inr ⟨o, rfl⟩⟩
  · show (v.heap.push _)[b]? = none ∨ (∃ c e fr, (v.heap.push _)[b]? = some (Obj.cells c e fr)) ∨ ∃ a l, _ ∧ (v.heap.push _)[b]? = some (Obj.number a l)
    rw [Array.getElem?_push]
    split
    · rename_i e
      cases hc with
      | cells e hc => exact .inr (.inl ⟨_, _, _, rfl⟩)
      | number l ha => exact .inr (.inr ⟨_, _, .inr e, rfl⟩)
    · rcases h.only b with o | o | ⟨a, l, oo, o⟩
      · exact .inl o
      · exact .inr (.inl o)
      · exact .inr (.inr ⟨a, l, .inl oo, o⟩)
theorem push_keep (v : World) (o : Obj) (b : Addr) (y : Value) (hy : v.cell? b = some y) : World.cell? { v with heap := v.heap.push o } b = some y := by
  unfold World.cell? at hy ⊢
  show (match (v.heap.push o)[b.block]? with | some (.cells c _ _) => if b.spot.isSome then none else c[b.off]? | _ => none) = _
  have : b.block < v.heap.size := by
    split at hy
    · rename_i hh
      exact (Array.getElem?_eq_some_iff.1 hh).1
    · cases hy
  rw [Array.getElem?_push, if_neg (by omega)]
  exact hy
theorem Did.new {ρ : Rn} {v w : World} (hw : WR ρ v w) (o o' : Obj) : Did ρ hw.nx v { v with heap := v.heap.push o } w { w with heap := w.heap.push o' } := by
  refine ⟨hw.le_nx, rfl, rfl, rfl, by show _ ≤ (w.heap.push _).size; simp, by show _ ≤ (v.heap.push _).size; simp, ?_, ?_, fun a x hx => ⟨x, push_keep v o a x hx⟩, fun b' l ne => ?_, ?_, fun b l _ => by show (v.heap.push _)[b]? = _; rw [Array.getElem?_push, if_neg (by omega)]⟩
  · rintro b b' (h | ⟨rfl, rfl⟩)
    · exact .inl h
    · exact .inr ⟨Nat.le_refl _, Nat.le_refl _⟩
  · rintro b (h | rfl)
    · exact .inl h
    · exact .inr (Nat.le_refl _)
  · exfalso
    apply ne
    show (w.heap.push _)[b']? = _
    rw [Array.getElem?_push, if_neg (by omega)]
  · rintro b b' (h | ⟨rfl, rfl⟩)
    · exact .inl h
    · exact .inr (.inr rfl)
theorem WR.draw {ρ : Rn} {v w : World} (h : WR ρ v w) : WR ρ { v with drawn := v.drawn + 1 } { w with drawn := w.drawn + 1 } := by
  refine ⟨h.rng, h.g0, h.own, h.only, fun i q => ?_⟩
  have := h.tape (1 + i) q
  simpa [Nat.add_assoc] using this
theorem Did.draw {ρ : Rn} {v w : World} : Did ρ ρ v { v with drawn := v.drawn + 1 } w { w with drawn := w.drawn + 1 } :=
  ⟨Rn.le.refl _, rfl, rfl, rfl, Nat.le_refl _, Nat.le_refl _, fun _ _ h => .inl h, fun _ h => .inl h, fun _ x h => ⟨x, h⟩, fun _ _ h => (h rfl).elim, fun _ _ h => .inl h, fun _ _ _ => rfl⟩
theorem freeze_heap (v : World) (a : Addr) (n : Nat) (hn : n ≠ 0) (b : Nat) : (v.freeze a n).heap[b]? = if a.block = b then (v.heap[b]?).map (fun
      | .cells c elem (lo, hi) => .cells c elem (if lo == hi then (a.off, a.off + n) else (min lo a.off, max hi (a.off + n)))
      | o => o) else v.heap[b]? := by
  unfold World.freeze
  rw [if_neg hn]
  show (v.heap.modify a.block _)[b]? = _
  rw [Array.getElem?_modify]
  rfl
theorem freeze_zero (v : World) (a : Addr) : v.freeze a 0 = v := by
  unfold World.freeze
  rw [if_pos rfl]
theorem freeze_rest (v : World) (a : Addr) (n : Nat) : (v.freeze a n).os = v.os ∧ (v.freeze a n).tape = v.tape ∧ (v.freeze a n).output = v.output ∧ (v.freeze a n).drawn = v.drawn ∧ (v.freeze a n).heap.size = v.heap.size := by
  unfold World.freeze
  split
  · exact ⟨rfl, rfl, rfl, rfl, rfl⟩
  · refine ⟨rfl, rfl, rfl, rfl, ?_⟩
    show (v.heap.modify a.block _).size = _
    rw [Array.size_modify]
theorem WR.ice {ρ : Rn} {v w : World} (h : WR ρ v w) {a a' : Addr} (r : AdR ρ a a') (n : Nat) : WR ρ (v.freeze a n) (w.freeze a' n) := by
  by_cases hn : n = 0
  · subst hn
    rw [freeze_zero, freeze_zero]
    exact h
  refine ⟨fun b b' rr => ?_, by rw [(freeze_rest v a n).2.2.2.2, (freeze_rest w a' n).2.2.2.2]; exact h.g0, h.own, fun b => ?_, ?_⟩
  · rcases h.rng _ _ rr with ⟨c, e, fr, c', fr', h1, h2, h3, h4⟩ | ⟨m, m', l, h1, h2, h3⟩
    rotate_left
    · refine .inr ⟨m, m', l, ?_, ?_, h3⟩
      · rw [freeze_heap _ _ _ hn, h1]
        split <;> rfl
      · rw [freeze_heap _ _ _ hn, h2]
        split <;> rfl
    refine .inl ?_
    unfold BlkC
    rw [freeze_heap _ _ _ hn, freeze_heap _ _ _ hn]
    by_cases e1 : a.block = b
    · have e2 : a'.block = b' := ρ.fn _ _ _ (e1 ▸ r.1) rr
      rw [if_pos e1, if_pos e2, h1, h2]
      obtain ⟨lo, hi⟩ := fr
      obtain ⟨lo', hi'⟩ := fr'
      refine ⟨c, e, _, c', _, rfl, rfl, h3, ?_⟩
      rw [r.2.1]
      rcases h4 with ⟨o, q1, q2⟩ | ⟨o, q⟩
      · cases q1
        exact .inl ⟨o, rfl, q2⟩
      · refine .inr ⟨o, fun i hi2 => ?_⟩
        have := q i hi2
        simp only at this
        split
        · rename_i e3
          simp at e3
          omega
        · simp only
          omega
    · have e2 : a'.block ≠ b' := fun e2 => e1 (ρ.inj _ _ _ (e2 ▸ r.1) rr)
      rw [if_neg e1, if_neg e2]
      exact ⟨c, e, fr, c', fr', h1, h2, h3, h4⟩
  · rw [freeze_heap _ _ _ hn]
    split
    · rcases h.only b with o | ⟨c, e, fr, o⟩ | ⟨m, l, oo, o⟩
      · exact .inl (by rw [o]; rfl)
      · exact .inr (.inl ⟨_, _, _, by rw [o]; rfl⟩)
      · exact .inr (.inr ⟨_, _, oo, by rw [o]; rfl⟩)
    · exact h.only b
  · intro i q
    rw [(freeze_rest v a n).2.1, (freeze_rest v a n).2.2.2.1, (freeze_rest w a' n).2.1, (freeze_rest w a' n).2.2.2.1]
    exact h.tape i q
theorem freeze_keep (v : World) (a : Addr) (n : Nat) (b : Addr) (y : Value) (hy : v.cell? b = some y) : (v.freeze a n).cell? b = some y := by
  by_cases hn : n = 0
  · subst hn
    rw [freeze_zero]
    exact hy
  obtain ⟨c, e, fr, h1, h2, h3⟩ := cell_some hy
  by_cases e1 : a.block = b.block
  · refine some_cell (c := c) (e := e) (fr := if fr.1 == fr.2 then (a.off, a.off + n) else (min fr.1 a.off, max fr.2 (a.off + n))) ?_ h2 h3
    rw [freeze_heap _ _ _ hn, if_pos e1, h1]
    rfl
  · exact some_cell (by rw [freeze_heap _ _ _ hn, if_neg e1]; exact h1) h2 h3
end Go.Proofs.YtgjhmbbbkkidlaaGreatDoor.sim
/-
  Two runs side by side: the run lemma, joined.
  Conditions: none; no program in sight.
-/
namespace Go.Proofs.YtgjhmbbbkkidlaaGreatDoor.sim
open Go
theorem Did.ice {ρ : Rn} {v w : World} {a a' : Addr} (r : AdR ρ a a') (o : ρ.own a.block) (n : Nat) : Did ρ ρ v (v.freeze a n) w (w.freeze a' n) := by
  refine ⟨Rn.le.refl _, (freeze_rest w a' n).1, (freeze_rest w a' n).2.1, (freeze_rest w a' n).2.2.1, Nat.le_of_eq (freeze_rest w a' n).2.2.2.2.symm, Nat.le_of_eq (freeze_rest v a n).2.2.2.2.symm, fun _ _ h => .inl h, fun _ h => .inl h, fun b y hy => ⟨y, freeze_keep v a n b y hy⟩, fun b' l ne => ?_, fun _ _ h => .inl h, fun b l no => ?_⟩
  · by_cases hn : n = 0
    · subst hn
      rw [freeze_zero] at ne
      exact (ne rfl).elim
    rw [freeze_heap _ _ _ hn] at ne
    split at ne
    · rename_i e
      exact ⟨a.block, o, e ▸ r.1⟩
    · exact (ne rfl).elim
  · by_cases hn : n = 0
    · subst hn
      rw [freeze_zero]
    rw [freeze_heap _ _ _ hn]
    split
    · rename_i e
      exact (no (e ▸ o)).elim
    · rfl
def Flat : Value → Prop
  | .agg _ => False
  | .tuple _ => False
  | _ => True
theorem store_runT {α : Type} (P : Program) (m : Mode) (a : Addr) {v : Value} (hv : Flat v) (k : Sem α) (w : World) (es : Array Event) :
    (Sem.store m a v k).runT P w es = match w.cell? a with
    | some _ =>
      if w.frozen? a then (.halt (.unsupported (.unsafePointer "a write to bytes that a string shares")) w, es)
      else k.runT P (w.setCell a v) (es.push ⟨.cell a, true, m == .atomic⟩)
    | none => match w.farStore P a v (m == .atomic) with
      | .ok (w, touched) => k.runT P w (es ++ touched.toArray.map (⟨.cell ·, true, m == .atomic⟩))
      | .error h => (.halt h w, es) := by
  cases v <;> first | rfl | exact hv.elim
theorem store_flat {α : Type} {P : Program} {m : Mode} {a : Addr} {v : Value} {k : Sem α} {w : World} {es : Array Event} {b : α} {w1 : World}
    (h : ((Sem.store m a v k).runT P w es).1 = .ok b w1) : Flat v := by
  cases v <;> first | trivial | cases h
theorem VR.flat {ρ : Rn} {v v' : Value} (h : VR ρ v v') (f : Flat v) : Flat v' := by
  cases h with
  | junk a => cases v' <;> first | trivial | exact a.elim
  | _ => first | trivial | exact f
theorem WR.near {ρ : Rn} {v w : World} (h : WR ρ v w) (b : Nat) : ¬ ∃ a t, v.heap[b]? = some (Obj.view a t) := by
  rintro ⟨a, t, e⟩
  rcases h.only b with o | ⟨c, e1, fr, o⟩ | ⟨n, l, _, o⟩ <;> rw [o] at e <;> cases e
theorem Dead.halts {α : Type} (P : Program) : ∀ (x : Sem α) (v : World) (es : Array Event), Dead x → ∃ h v1, (x.runT P v es).1 = .halt h v1 ∧ Ord h := by
  intro x
  induction x with
  | pure a => intro v es h; exact h.elim
  | load m a k ih => intro v es h; exact h.elim
  | store m a x k ih => intro v es h; exact h.elim
  | new o k ih => intro v es h; exact h.elim
  | shape r k ih => intro v es h; exact ih _ _ _ (h _)
  | freeze a n k ih => intro v es h; exact h.elim
  | frozen a k ih => intro v es h; exact ih _ _ _ (h _)
  | getObj r k ih => intro v es h; exact h.elim
  | setObj r o k ih => intro v es h; exact h.elim
  | choose q k ih =>
    intro v es h
    simp only [Sem.runT]
    split
    · exact ih _ _ _ (h _)
    · exact ih _ _ _ (h _)
  | sys c k ih => intro v es h; exact h.elim
  | program k ih => intro v es h; exact ih _ _ _ (h _)
  | mark m k ih => intro v es h; exact ih _ _ h
  | halt e => intro v es h; exact ⟨e, v, rfl, h⟩
theorem Dead.not {α : Type} (P : Program) (x : Sem α) (v : World) (es : Array Event) (a : α) (w : World) (h : Dead x) : (x.runT P v es).1 ≠ .ok a w := by
  obtain ⟨e, v1, he, _⟩ := Dead.halts P x v es h
  rw [he]
  exact fun q => by cases q
section
variable {P : Program} {α β : Type} {RR : Rn → α → β → Prop}
theorem TR.runT : ∀ (x : Sem α) (y : Sem β) (ρ : Rn) (v w : World) (es fs : Array Event) (a : α) (v1 : World),
    TR P RR ρ x y → WR ρ v w → (x.runT P v es).1 = .ok a v1 →
    ∃ ρ1 b w1 gs, y.runT P w fs = (.ok b w1, fs ++ gs) ∧ RR ρ1 a b ∧ WR ρ1 v1 w1 ∧ Did ρ ρ1 v v1 w w1 ∧ ∀ e ∈ gs, EvR ρ1 v1 e := by
  intro x
  induction x with
  | pure a0 =>
    intro y ρ v w es fs a v1 g hw hr
    obtain ⟨b, rfl, r⟩ := g
    cases hr
    exact ⟨ρ, b, w, #[], by simp [Sem.runT], r, hw, Did.refl _ _ _, by simp⟩
  | load m ad k ih =>
    intro y ρ v w es fs a v1 g hw hr
    obtain ⟨rfl, a', k', rfl, r, q⟩ := g
    simp only [Sem.runT] at hr
    split at hr
    · rename_i x hx
      obtain ⟨x', hx', rx⟩ := hw.cell r hx
      obtain ⟨ρ1, b, w1, gs, h1, h2, h3, h4, h5⟩ := ih x _ ρ v w _ (fs.push ⟨.cell a', false, false⟩) a v1 (q ρ x x' (Rn.le.refl _) rx) hw hr
      refine ⟨ρ1, b, w1, #[⟨.cell a', false, false⟩] ++ gs, ?_, h2, h3, h4, fun e he => ?_⟩
      · simp only [Sem.runT, hx']
        rw [show (Mode.plain == Mode.atomic) = false from rfl, h1]
        rw [Array.push_eq_append, Array.append_assoc]
      · rcases Array.mem_append.1 he with he | he
        · cases (by simpa using he : e = _)
          have : EvR ρ v ⟨.cell a', false, false⟩ := .inl ⟨rfl, ad, a', rfl, r, ⟨x, hx⟩, fun h => by cases h⟩
          exact this.mono h4
        · exact h5 e he
    · exfalso
      split at hr
      · rename_i hf
        unfold World.farLoad at hf
        split at hf
        · rename_i hh
          exact hw.near _ ⟨_, _, hh⟩
        · cases hf
      · cases hr
  | store m ad x k ih =>
    intro y ρ v w es fs a v1 g hw hr
    obtain ⟨rfl, a', x', k', rfl, r, rx, q⟩ := g
    have fl := store_flat hr
    rw [store_runT _ _ _ fl] at hr
    split at hr
    · rename_i x0 hx
      split at hr
      · cases hr
      · rename_i hf
        have hf : v.frozen? ad = false := by simpa using hf
        obtain ⟨o, hf'⟩ := hw.warm r hx hf
        obtain ⟨x0', hx', _⟩ := hw.cell r hx
        have d : Did ρ ρ v (v.setCell ad x) w (w.setCell a' x') := Did.set r o x x'
        have hw2 := hw.set r rx
        obtain ⟨ρ1, b, w1, gs, h1, h2, h3, h4, h5⟩ := ih _ ρ _ _ _ (fs.push ⟨.cell a', true, false⟩) a v1 (q ρ (Rn.le.refl _)) hw2 hr
        refine ⟨ρ1, b, w1, #[⟨.cell a', true, false⟩] ++ gs, ?_, h2, h3, Did.trans hw hw2 d h4, fun e he => ?_⟩
        · rw [store_runT _ _ _ (rx.flat fl), hx']
          simp only [hf']
          rw [show (Mode.plain == Mode.atomic) = false from rfl, if_neg (by simp), h1]
          rw [Array.push_eq_append, Array.append_assoc]
        · rcases Array.mem_append.1 he with he | he
          · cases (by simpa using he : e = _)
            have : EvR ρ v ⟨.cell a', true, false⟩ := .inl ⟨rfl, ad, a', rfl, r, ⟨x0, hx⟩, fun _ => o⟩
            exact (this.mono d).mono h4
          · exact h5 e he
    · exfalso
      split at hr
      · rename_i hf
        unfold World.farStore at hf
        split at hf
        · rename_i hh
          exact hw.near _ ⟨_, _, hh⟩
        · cases hf
      · cases hr
  | new o k ih =>
    intro y ρ v w es fs a v1 g hw hr
    obtain ⟨o', k', rfl, r, q⟩ := g
    simp only [Sem.runT] at hr
    have d : Did ρ hw.nx v { v with heap := v.heap.push o } w { w with heap := w.heap.push o' } := Did.new hw _ _
    have hw2 := hw.new r
    obtain ⟨ρ1, b, w1, gs, h1, h2, h3, h4, h5⟩ := ih _ _ _ _ _ _ fs a v1 (q hw.nx v.heap.size w.heap.size hw.le_nx (.inr ⟨rfl, rfl⟩) (.inr rfl)) hw2 hr
    exact ⟨ρ1, b, w1, gs, by simp only [Sem.runT]; exact h1, h2, h3, Did.trans hw hw2 d h4, h5⟩
  | shape r k ih =>
    intro y ρ v w es fs a v1 g hw hr
    rcases g with g | ⟨r', k', rfl, rr, q, q2⟩
    · exact (Dead.not P _ _ _ _ _ g hr).elim
    simp only [Sem.runT] at hr
    rcases hw.rng _ _ rr with ⟨c, e, fr, c', fr', e1, e2, e3, e4⟩ | ⟨n, n', l, e1, e2, _⟩
    rotate_left
    · have s1 : v.shape? r = none := by unfold World.shape?; rw [e1]
      have s2 : w.shape? r' = none := by unfold World.shape?; rw [e2]
      rw [s1] at hr
      obtain ⟨ρ1, b, w1, gs, h1, h2, h3, h4, h5⟩ := ih _ _ ρ v w _ fs a v1 (q2 ρ (Rn.le.refl _)) hw hr
      exact ⟨ρ1, b, w1, gs, by simp only [Sem.runT, s2]; exact h1, h2, h3, h4, h5⟩
    have s1 : v.shape? r = some (e, c.size) := by unfold World.shape?; rw [e1]
    have s2 : w.shape? r' = some (e, c'.size) := by unfold World.shape?; rw [e2]
    rw [s1] at hr
    obtain ⟨ρ1, b, w1, gs, h1, h2, h3, h4, h5⟩ := ih _ _ ρ v w _ fs a v1 (q ρ e c.size c'.size (Rn.le.refl _) e3.1 (fun o => by
      rcases e4 with ⟨_, _, e5⟩ | ⟨no, _⟩
      · exact e5
      · exact (no o).elim)) hw hr
    exact ⟨ρ1, b, w1, gs, by simp only [Sem.runT, s2]; exact h1, h2, h3, h4, h5⟩
  | freeze ad n k ih =>
    intro y ρ v w es fs a v1 g hw hr
    obtain ⟨a', k', rfl, r, o, q⟩ := g
    simp only [Sem.runT] at hr
    have d : Did ρ ρ v (v.freeze ad n) w (w.freeze a' n) := Did.ice r o n
    have hw2 := hw.ice r n
    obtain ⟨ρ1, b, w1, gs, h1, h2, h3, h4, h5⟩ := ih _ ρ _ _ _ fs a v1 (q ρ (Rn.le.refl _)) hw2 hr
    exact ⟨ρ1, b, w1, gs, by simp only [Sem.runT]; exact h1, h2, h3, Did.trans hw hw2 d h4, h5⟩
  | frozen ad k ih =>
    intro y ρ v w es fs a v1 g hw hr
    obtain ⟨a', k', rfl, q⟩ := g
    simp only [Sem.runT] at hr
    obtain ⟨ρ1, b, w1, gs, h1, h2, h3, h4, h5⟩ := ih _ _ ρ v w _ fs a v1 (q ρ _ (w.frozen? a') (Rn.le.refl _)) hw hr
    exact ⟨ρ1, b, w1, gs, by simp only [Sem.runT]; exact h1, h2, h3, h4, h5⟩
  | getObj r k ih =>
    intro y ρ v w es fs a v1 g hw hr
    rcases hw.only r with o | ⟨c, e1, fr, o⟩ | ⟨n, l, oo, o⟩
    · simp only [Sem.runT] at hr
      rw [o] at hr
      cases hr
    · simp only [Sem.runT] at hr
      rw [o] at hr
      cases hr
    · simp only [Sem.runT] at hr
      rw [o] at hr
      rcases g with g | ⟨r', k', rfl, rr, q⟩
      · exact (Dead.not P _ _ _ _ _ (g n l) hr).elim
      · rcases hw.rng _ _ rr with ⟨c, e, fr, c', fr', e1, _⟩ | ⟨m, m', l', e1, e2, e3, _⟩
        · rw [e1] at o
          cases o
        · rw [e1] at o
          cases o
          obtain ⟨ρ1, b, w1, gs, h1, h2, h3, h4, h5⟩ := ih _ _ ρ v w _ (fs.push ⟨.obj r', false, false⟩) a v1 (q ρ n m' l (Rn.le.refl _) e3) hw hr
          refine ⟨ρ1, b, w1, #[⟨.obj r', false, false⟩] ++ gs, ?_, h2, h3, h4, fun e he => ?_⟩
          · simp only [Sem.runT, e2]
            show (k' (.number m' l)).runT P w (fs.push ⟨.obj r', false, false⟩) = _
            rw [h1]
            rw [Array.push_eq_append, Array.append_assoc]
          · rcases Array.mem_append.1 he with he | he
            · cases (by simpa using he : e = _)
              exact .inr (.inl ⟨rfl, rfl, r, r', rfl, h4.le.1 _ _ rr, h4.le.2.1 _ oo⟩)
            · exact h5 e he
  | setObj r o k ih =>
    intro y ρ v w es fs a v1 g hw hr
    exact g.elim
  | choose qn k ih =>
    intro y ρ v w es fs a v1 g hw hr
    obtain ⟨k', rfl, q⟩ := g
    simp only [Sem.runT] at hr ⊢
    split at hr
    · rename_i hf
      obtain ⟨ρ1, b, w1, gs, h1, h2, h3, h4, h5⟩ := ih _ _ ρ v w _ fs a v1 (q ρ 0 (Rn.le.refl _)) hw hr
      exact ⟨ρ1, b, w1, gs, by rw [if_pos hf]; exact h1, h2, h3, h4, h5⟩
    · rename_i hf
      have ht : v.tape v.drawn qn = w.tape w.drawn qn := hw.tape 0 qn
      rw [ht] at hr
      obtain ⟨ρ1, b, w1, gs, h1, h2, h3, h4, h5⟩ := ih _ _ ρ _ _ _ fs a v1 (q ρ (qn.cut (w.tape w.drawn qn)) (Rn.le.refl _)) hw.draw hr
      exact ⟨ρ1, b, w1, gs, by rw [if_neg hf]; exact h1, h2, h3, Did.trans hw hw.draw Did.draw h4, h5⟩
  | sys s k ih =>
    intro y ρ v w es fs a v1 g hw hr
    exact g.elim
  | program k ih =>
    intro y ρ v w es fs a v1 g hw hr
    rcases g with g | ⟨k', rfl, q⟩
    · simp only [Sem.runT] at hr
      exact (Dead.not P _ _ _ _ _ g hr).elim
    simp only [Sem.runT] at hr ⊢
    exact ih _ _ ρ v w _ fs a v1 (q ρ (Rn.le.refl _)) hw hr
  | mark m k ih =>
    intro y ρ v w es fs a v1 g hw hr
    rcases g with g | ⟨rfl, k', rfl, q⟩
    · exact (Dead.not P _ _ _ _ _ g hr).elim
    simp only [Sem.runT] at hr ⊢
    obtain ⟨ρ1, b, w1, gs, h1, h2, h3, h4, h5⟩ := ih _ ρ v w _ (fs.push ⟨.mark .noRoom, false, true⟩) a v1 (q ρ (Rn.le.refl _)) hw hr
    refine ⟨ρ1, b, w1, #[⟨.mark .noRoom, false, true⟩] ++ gs, ?_, h2, h3, h4, fun e he => ?_⟩
    · rw [h1]
      rw [Array.push_eq_append, Array.append_assoc]
    · rcases Array.mem_append.1 he with he | he
      · cases (by simpa using he : e = _)
        exact .inr (.inr rfl)
      · exact h5 e he
  | halt h =>
    intro y ρ v w es fs a v1 g hw hr
    cases hr
end
end Go.Proofs.YtgjhmbbbkkidlaaGreatDoor.sim
/-
  Two runs side by side: the words that the operations are made of.
  Conditions: none; no program in sight.
-/
namespace Go.Proofs.YtgjhmbbbkkidlaaGreatDoor.sim
open Go

/-- the same on both sides -/
def Same {α : Type} : Rn → α → α → Prop := fun _ a b => a = b
/-- the program's zero values hold no address -/
def Zt (P : Program) (t : TypeId) : Prop := ∀ i z, P.info? t = some i → i.zero = some z → (∀ ρ, VR ρ z z) ∧ (0 < i.size → 0 < z.cells.size)
def Zsl (P : Program) (t : TypeId) : Prop := ∀ e, P.underlying t = some (.slice e) → Zt P e
section
variable {P : Program} {α β γ δ : Type} {RR : Rn → α → β → Prop} {SS : Rn → γ → δ → Prop} {ρ : Rn}
theorem TR.ret {a : α} {b : β} (h : RR ρ a b) : TR P RR ρ (pure a) (pure b) := ⟨b, rfl, h⟩
theorem TR.b {x : Sem α} {y : Sem β} {f : α → Sem γ} {g : β → Sem δ} (h : TR P RR ρ x y) (k : ∀ ρ' a b, Rn.le ρ ρ' → RR ρ' a b → TR P SS ρ' (f a) (g b)) : TR P SS ρ (x >>= f) (y >>= g) := TR.bind x y h k
theorem TR.stuck (s : String) (y : Sem β) : TR P RR ρ (stuck s) y := trivial
theorem TR.stuckb {ε : Type} (s : String) (f : ε → Sem α) (y : Sem β) : TR P RR ρ ((Go.stuck s : Sem ε) >>= f) y := trivial
theorem TR.goPanic (v : Value) (y : Sem β) : TR P RR ρ (goPanic v) y := trivial
theorem TR.prog {f : Program → Sem γ} {g : Program → Sem δ} (k : ∀ ρ', Rn.le ρ ρ' → TR P SS ρ' (f P) (g P)) : TR P SS ρ (program >>= f) (program >>= g) := .inr ⟨_, rfl, fun ρ' l => k ρ' l⟩
theorem TR.und (t : TypeId) {f : TypeDesc → Sem γ} {g : TypeDesc → Sem δ} (k : ∀ ρ' d, Rn.le ρ ρ' → P.underlying t = some d → TR P SS ρ' (f d) (g d)) : TR P SS ρ (underlying t >>= f) (underlying t >>= g) := by
  refine .inr ⟨_, rfl, fun ρ' l => ?_⟩
  show TR P SS ρ' (Sem.bind (match P.underlying t with | some d => pure d | none => Go.stuck "no such type") f) (Sem.bind (match P.underlying t with | some d => pure d | none => Go.stuck "no such type") g)
  cases e : P.underlying t with
  | none => trivial
  | some d => exact k ρ' d l e
theorem TR.info (t : TypeId) {f : TypeInfo → Sem γ} {g : TypeInfo → Sem δ} (k : ∀ ρ' d, Rn.le ρ ρ' → P.info? t = some d → TR P SS ρ' (f d) (g d)) : TR P SS ρ (typeInfo t >>= f) (typeInfo t >>= g) := by
  refine .inr ⟨_, rfl, fun ρ' l => ?_⟩
  show TR P SS ρ' (Sem.bind (match P.info? t with | some d => pure d | none => Go.stuck "no such type") f) (Sem.bind (match P.info? t with | some d => pure d | none => Go.stuck "no such type") g)
  cases e : P.info? t with
  | none => trivial
  | some d => exact k ρ' d l e
theorem TR.size (t : TypeId) {f : Nat → Sem γ} {g : Nat → Sem δ} (k : ∀ ρ' n, Rn.le ρ ρ' → TR P SS ρ' (f n) (g n)) : TR P SS ρ (sizeOf t >>= f) (sizeOf t >>= g) := by
  refine TR.b (RR := Same) ?_ fun ρ' a b l e => by cases e; exact k ρ' a l
  exact TR.info t fun ρ' d l e => TR.ret rfl
theorem TR.zero (t : TypeId) (hz : Zt P t) {f : Value → Sem γ} {g : Value → Sem δ} (k : ∀ ρ' z, Rn.le ρ ρ' → (∀ ρ, VR ρ z z) → TR P SS ρ' (f z) (g z)) : TR P SS ρ (zeroValue t >>= f) (zeroValue t >>= g) := by
  refine TR.b (RR := fun _ a b => a = b ∧ ∀ ρ, VR ρ a a) ?_ fun ρ' a b l e => by obtain ⟨rfl, e⟩ := e; exact k ρ' a l e
  refine TR.info t fun ρ' d l e => ?_
  cases e2 : d.zero with
  | none => trivial
  | some z => exact TR.ret ⟨rfl, (hz d z e e2).1⟩
theorem TR.agg (t : TypeId) {f : Bool → Sem γ} {g : Bool → Sem δ} (k : ∀ ρ' n, Rn.le ρ ρ' → TR P SS ρ' (f n) (g n)) : TR P SS ρ (isAgg t >>= f) (isAgg t >>= g) := by
  refine TR.b (RR := Same) ?_ fun ρ' a b l e => by cases e; exact k ρ' a l
  refine TR.und t fun ρ' d l e => ?_
  cases d <;> exact TR.ret rfl
/-- a panic whose value holds no new block -/
def Quiet : RuntimeError → Prop
  | .typeAssertion .. => False
  | .panicNil => False
  | _ => True
theorem TR.panic {e : RuntimeError} (h : Quiet e) : TR P RR ρ (runtimePanic e) (runtimePanic e) := by
  refine TR.prog fun ρ' l => ?_
  cases e <;> first | exact h.elim | trivial
theorem TR.panicb {ε ε' : Type} {e : RuntimeError} (h : Quiet e) (f : ε → Sem α) (g : ε' → Sem β) : TR P RR ρ ((runtimePanic e : Sem ε) >>= f) ((runtimePanic e : Sem ε') >>= g) :=
  TR.b (RR := fun _ _ _ => False) (TR.panic h) fun _ _ _ _ h => h.elim
theorem TR.bounds (k : IntKind) (x y : Int) (c : BoundsCode) : TR P RR ρ (boundsPanic k x y c) (boundsPanic k x y c) := by
  unfold boundsPanic
  split
  · exact ⟨_, rfl, fun ρ' n l => TR.panic (e := .bounds _ _ _ _) trivial⟩
  · exact TR.panic (e := .bounds _ _ _ _) trivial
theorem TR.intOf {v v' : Value} (h : VR ρ v v') {f : IntKind × Int → Sem γ} {g : IntKind × Int → Sem δ} (k : ∀ ρ' a n, Rn.le ρ ρ' → v = .int a n → v' = .int a n → TR P SS ρ' (f (a, n)) (g (a, n))) : TR P SS ρ (asIntOf v >>= f) (asIntOf v' >>= g) := by
  cases h <;> first | trivial | exact k ρ _ _ (Rn.le.refl _) rfl rfl
theorem TR.int {v v' : Value} (h : VR ρ v v') {f : Int → Sem γ} {g : Int → Sem δ} (k : ∀ ρ' n, Rn.le ρ ρ' → TR P SS ρ' (f n) (g n)) : TR P SS ρ (asInt v >>= f) (asInt v' >>= g) := by
  cases h <;> first | trivial | exact k ρ _ (Rn.le.refl _)
theorem TR.bool {v v' : Value} (h : VR ρ v v') {f : Bool → Sem γ} {g : Bool → Sem δ} (k : ∀ ρ' n, Rn.le ρ ρ' → TR P SS ρ' (f n) (g n)) : TR P SS ρ (asBool v >>= f) (asBool v' >>= g) := by
  cases h <;> first | trivial | exact k ρ _ (Rn.le.refl _)
theorem TR.sure {v v' : Value} (h : VR ρ v v') {f : Addr → Sem γ} {g : Addr → Sem δ} (k : ∀ a a', AdR ρ a a' → TR P SS ρ (f a) (g a')) : TR P SS ρ (Instr.sureAddr v >>= f) (Instr.sureAddr v' >>= g) := by
  cases h <;> first | trivial | exact k _ _ ‹_›
theorem TR.addr {v v' : Value} (h : VR ρ v v') {f : Addr → Sem γ} {g : Addr → Sem δ} (k : ∀ a a', AdR ρ a a' → TR P SS ρ (f a) (g a')) : TR P SS ρ (asAddr v >>= f) (asAddr v' >>= g) := by
  cases h <;> first | trivial | exact k _ _ ‹_› | exact TR.panicb (e := .nilDeref) trivial _ _
theorem TR.ld {a a' : Addr} (h : AdR ρ a a') {f : Value → Sem γ} {g : Value → Sem δ} (k : ∀ ρ' v v', Rn.le ρ ρ' → VR ρ' v v' → TR P SS ρ' (f v) (g v')) : TR P SS ρ (load a >>= f) (load a' >>= g) :=
  ⟨rfl, _, _, rfl, h, fun ρ' v v' l r => k ρ' v v' l r⟩
theorem TR.st {a a' : Addr} (h : AdR ρ a a') {v v' : Value} (r : VR ρ v v') {f : Unit → Sem γ} {g : Unit → Sem δ} (k : ∀ ρ', Rn.le ρ ρ' → TR P SS ρ' (f ()) (g ())) : TR P SS ρ (store a v >>= f) (store a' v' >>= g) :=
  ⟨rfl, _, _, _, rfl, h, r, fun ρ' l => k ρ' l⟩
theorem TR.shp {r r' : Nat} (h : ρ.rel r r') {f : Option (TypeId × Nat) → Sem γ} {g : Option (TypeId × Nat) → Sem δ} (k : ∀ ρ' t n n', Rn.le ρ ρ' → n ≤ n' → (ρ'.own r → n' = n) → TR P SS ρ' (f (some (t, n))) (g (some (t, n')))) (kn : ∀ ρ', Rn.le ρ ρ' → TR P SS ρ' (f none) (g none)) : TR P SS ρ (shape r >>= f) (shape r' >>= g) :=
  .inr ⟨_, _, rfl, h, fun ρ' t n n' l a o => k ρ' t n n' l a o, fun ρ' l => kn ρ' l⟩
theorem TR.viewN {r r' : Nat} (h : ρ.rel r r') : TR P (fun _ x y => x = none ∧ y = none) ρ (viewAt r) (viewAt r') :=
  .inr ⟨_, _, rfl, h, fun ρ' t n n' l _ _ => TR.ret ⟨rfl, rfl⟩, fun ρ' l => .inr ⟨_, _, rfl, l.1 _ _ h, fun ρ2 a a' b l2 r => TR.ret ⟨rfl, rfl⟩⟩⟩
theorem TR.behind {a a' : Addr} (h : AdR ρ a a') {f : Addr × Bool → Sem γ} {g : Addr × Bool → Sem δ} (k : ∀ ρ' b b' l, Rn.le ρ ρ' → AdR ρ' b b' → TR P SS ρ' (f (b, l)) (g (b', l))) : TR P SS ρ (behindNumber a >>= f) (behindNumber a' >>= g) := by
  refine TR.b (RR := fun ρ p q => AdR ρ p.1 q.1 ∧ p.2 = q.2) ?_ fun ρ' p q l e => by
    obtain ⟨p1, p2⟩ := p
    obtain ⟨q1, q2⟩ := q
    obtain ⟨e1, e2⟩ := e
    cases e2
    exact k ρ' p1 q1 p2 l e1
  refine TR.b (RR := fun ρ p q => (p = none ∧ q = none) ∨ ∃ b b' l, p = some (b, l) ∧ q = some (b', l) ∧ AdR ρ b b') (x := numberAt a.block) (y := numberAt a'.block) ?_ fun ρ' p q l e => ?_
  · exact .inr ⟨_, _, rfl, h.1, fun ρ' t n n' l _ _ => TR.ret (.inl ⟨rfl, rfl⟩), fun ρ' l => .inr ⟨_, _, rfl, l.1 _ _ h.1, fun ρ2 a a' b l2 r => TR.ret (.inr ⟨_, _, _, rfl, rfl, r⟩)⟩⟩
  · rcases e with ⟨rfl, rfl⟩ | ⟨b, b', l', rfl, rfl, r⟩
    · exact TR.ret ⟨h.mono l, rfl⟩
    · exact TR.ret ⟨r, rfl⟩
theorem TR.cellsFrom {a a' : Addr} : ∀ (n i : Nat) (acc acc' : Array Value) {ρ : Rn}, AdR ρ a a' → ArR ρ acc acc' → TR P ArR ρ (loadCellsFrom a i n acc) (loadCellsFrom a' i n acc') := by
  intro n
  induction n with
  | zero => intro i acc acc' ρ h r; exact TR.ret r
  | succ n ih =>
    intro i acc acc' ρ h r
    exact TR.ld (h.add i) fun ρ' v v' l rv => ih _ _ _ (h.mono l) ((r.mono l).push rv)
theorem TR.cells {a a' : Addr} (h : AdR ρ a a') (n : Nat) : TR P ArR ρ (loadCells a n) (loadCells a' n) := TR.cellsFrom n 0 #[] #[] h (ArR.nil ρ)
theorem VR.agg' {c c' : Array Value} (h : ArR ρ c c') : VR ρ (.agg c) (.agg c') := .agg h.1 h.2
theorem TR.loadVar (t : TypeId) {a a' : Addr} (h : AdR ρ a a') : TR P VR ρ (loadVar t a) (loadVar t a') := by
  refine TR.agg t fun ρ1 b l1 => ?_
  cases b
  · refine ⟨rfl, _, _, rfl, h.mono l1, fun ρ' v v' l r => TR.ret r⟩
  · exact TR.size t fun ρ2 n l2 => TR.b (TR.cells ((h.mono l1).mono l2) n) fun ρ3 c c' l3 r => TR.ret (VR.agg' r)
theorem VR.cells {v v' : Value} (h : VR ρ v v') : ArR ρ v.cells v'.cells := by
  have one : ∀ w w', VR ρ w w' → ArR ρ #[w] #[w'] := fun w w' h => (ArR.nil ρ).push h
  cases h with
  | agg a b => exact ⟨a, b⟩
  | bool b => exact one _ _ (.bool b)
  | int k n => exact one _ _ (.int k n)
  | float k b => exact one _ _ (.float k b)
  | string s => exact one _ _ (.string s)
  | nilPtr => exact one _ _ .nilPtr
  | ptr a => exact one _ _ (.ptr a)
  | nilSlice l c => exact one _ _ (.nilSlice l c)
  | slice l c a => exact one _ _ (.slice l c a)
  | map r => exact one _ _ (.map r)
  | chan r => exact one _ _ (.chan r)
  | func a b c d => exact one _ _ (.func a b c d)
  | nilFunc => exact one _ _ .nilFunc
  | iface r => exact one _ _ (.iface r)
  | nilIface => exact one _ _ .nilIface
  | tuple a b => exact one _ _ (.tuple a b)
  | junk a =>
    have e : v'.cells = #[v'] := by cases v' <;> first | rfl | exact a.elim
    rw [e]
    exact one _ _ (.junk a)
/-- lists of values, place by place -/
inductive LiR (ρ : Rn) : List Value → List Value → Prop
  | nil : LiR ρ [] []
  | cons {v v' : Value} {l l' : List Value} : VR ρ v v' → LiR ρ l l' → LiR ρ (v :: l) (v' :: l')
theorem LiR.mono {ρ ρ' : Rn} (h : Rn.le ρ ρ') {l l' : List Value} (g : LiR ρ l l') : LiR ρ' l l' := by
  induction g with
  | nil => exact .nil
  | cons a _ ih => exact .cons (a.mono h) ih
theorem TR.storeCells0 {a a' : Addr} : ∀ (vs vs' : List Value) (i : Nat) {ρ : Rn}, (vs ≠ [] → AdR ρ a a') → LiR ρ vs vs' → TR P (fun _ _ _ => True) ρ (storeCells a vs i) (storeCells a' vs' i) := by
  intro vs
  induction vs with
  | nil => intro vs' i ρ h r; cases r; exact TR.ret trivial
  | cons v vs ih =>
    intro vs' i ρ h r
    cases r with
    | cons r1 r2 =>
      have h := h (by simp)
      exact TR.st (h.add i) r1 fun ρ' l => ih _ _ (fun _ => h.mono l) (r2.mono l)
theorem TR.storeCells {a a' : Addr} (vs vs' : List Value) (i : Nat) {ρ : Rn} (h : AdR ρ a a') (r : LiR ρ vs vs') : TR P (fun _ _ _ => True) ρ (storeCells a vs i) (storeCells a' vs' i) := TR.storeCells0 vs vs' i (fun _ => h) r
theorem ArR.list {c c' : Array Value} (h : ArR ρ c c') : LiR ρ c.toList c'.toList := by
  obtain ⟨c⟩ := c
  obtain ⟨c'⟩ := c'
  have h1 : c.length = c'.length := h.1
  have h2 : ∀ i v v', c[i]? = some v → c'[i]? = some v' → VR ρ v v' := fun i v v' a b => h.2 i v v' (by simpa using a) (by simpa using b)
  clear h
  show LiR ρ c c'
  induction c generalizing c' with
  | nil => cases c' with
    | nil => exact .nil
    | cons _ _ => cases h1
  | cons x c ih => cases c' with
    | nil => cases h1
    | cons x' c' => exact .cons (h2 0 x x' rfl rfl) (ih c' (by simpa using h1) fun i v v' a b => h2 (i + 1) v v' (by simpa using a) (by simpa using b))
theorem TR.storeVar (t : TypeId) {a a' : Addr} (h : AdR ρ a a') {v v' : Value} (r : VR ρ v v') : TR P (fun _ _ _ => True) ρ (storeVar t a v) (storeVar t a' v') := by
  refine TR.size t fun ρ1 n l1 => ?_
  rw [r.cells.1]
  split
  · trivial
  · exact TR.storeCells _ _ 0 (h.mono l1) (ArR.list (r.mono l1).cells)
theorem TR.newRow (e : TypeId) {c c' : Array Value} (h : ArR ρ c c') : TR P (fun ρ a a' => AdR ρ a a' ∧ ρ.own a.block) ρ (newRow e c) (newRow e c') :=
  ⟨_, _, rfl, .cells e h, fun ρ' r r' l q o => TR.ret ⟨⟨q, rfl, rfl⟩, o⟩⟩
theorem TR.newVar (t : TypeId) {v v' : Value} (h : VR ρ v v') : TR P (fun ρ a a' => AdR ρ a a' ∧ ρ.own a.block) ρ (newVar t v) (newVar t v') := TR.newRow t h.cells
end
end Go.Proofs.YtgjhmbbbkkidlaaGreatDoor.sim
/-
  Two runs side by side: the operations on memory.
  Conditions: none; no program in sight.
-/
namespace Go.Proofs.YtgjhmbbbkkidlaaGreatDoor.sim
open Go
section
variable {P : Program} {α β γ δ : Type} {RR : Rn → α → β → Prop} {SS : Rn → γ → δ → Prop} {ρ : Rn}
theorem pb {α β : Type} (a : α) (f : α → Sem β) : ((pure a : Sem α) >>= f) = f a := rfl
theorem TR.allocI (t : TypeId) (hz : Zt P t) : TR P VR ρ (Instr.alloc t true (.tuple #[])) (Instr.alloc t true (.tuple #[])) := by
  refine TR.zero t hz fun ρ1 z l1 h => ?_
  exact TR.b (TR.newVar t (h ρ1)) fun ρ2 a b l2 r => TR.ret (.ptr r.1)
theorem TR.boxI (t : TypeId) {v v' : Value} (h : VR ρ v v') : TR P VR ρ (Instr.box t v) (Instr.box t v') :=
  TR.b (TR.newVar t h) fun ρ2 a b l2 r => TR.ret (.ptr r.1)
theorem TR.loadI (t : TypeId) {v v' : Value} (h : VR ρ v v') : TR P VR ρ (Instr.loadAt t v) (Instr.loadAt t v') :=
  TR.sure h fun a a' r => TR.loadVar t r
theorem TR.storeI (t : TypeId) {v v' x x' : Value} (h : VR ρ v v') (g : VR ρ x x') : TR P (fun _ _ _ => True) ρ (Instr.storeAt t v x) (Instr.storeAt t v' x') :=
  TR.sure h fun a a' r => TR.storeVar t r g
theorem TR.noView {a a' : Addr} (h : AdR ρ a a') {f : Unit → Sem γ} {g : Unit → Sem δ} (k : ∀ ρ', Rn.le ρ ρ' → TR P SS ρ' (f ()) (g ())) : TR P SS ρ (noView a >>= f) (noView a' >>= g) := by
  refine TR.b (RR := Same) ?_ fun ρ' a b l e => by cases e; exact k ρ' l
  refine TR.b (TR.viewN h.1) fun ρ1 x y l1 e => ?_
  obtain ⟨rfl, rfl⟩ := e
  exact TR.ret rfl
theorem TR.byteOf {a a' : Addr} (h : AdR ρ a a') : TR P Same ρ (byteOf a) (byteOf a') := by
  unfold Go.byteOf
  rw [h.2.2]
  cases e : a.spot with
  | some s => exact TR.ret rfl
  | none =>
    refine TR.prog fun ρ1 l1 => TR.noView (h.mono l1) fun ρ2 l2 => TR.shp (h.mono (l1.trans l2)).1 (fun ρ3 t n n' l3 _ _ => ?_) fun _ _ => True.intro
    simp only [h.2.1]
    split
    · exact TR.ret rfl
    · cases byteOfCell P P.depth t (a.off % P.cellsOf t) with
      | none => trivial
      | some b => exact TR.ret rfl
theorem TR.partAt {a a' : Addr} (h : AdR ρ a a') (c b : Nat) : TR P AdR ρ (partAt a c b) (partAt a' c b) := by
  refine TR.b (TR.byteOf h) fun ρ1 x y l1 e => ?_
  cases e
  have h2 : AdR ρ1 { block := a.block, off := a.off + c } { block := a'.block, off := a'.off + c } := ⟨(h.mono l1).1, by simp [h.2.1], rfl⟩
  refine TR.b (TR.byteOf h2) fun ρ2 x' y' l2 e => ?_
  cases e
  have h3 := h2.mono l2
  refine TR.ret ?_
  split
  · exact h3
  · exact ⟨h3.1, h3.2.1, rfl⟩
theorem TR.fieldPlace {a a' : Addr} (h : AdR ρ a a') (f : Field) : TR P AdR ρ (fieldPlace a f) (fieldPlace a' f) := by
  refine TR.size _ fun ρ1 n l1 => ?_
  split
  · exact TR.partAt (h.mono l1) _ _
  · exact TR.ret ((h.mono l1).add _)
theorem TR.fieldI (s : TypeId) {v v' : Value} (h : VR ρ v v') (f : Nat) : TR P VR ρ (Instr.fieldAt s v f) (Instr.fieldAt s v' f) := by
  refine TR.und s fun ρ1 d l1 e => ?_
  cases d <;> first | trivial | skip
  rename_i fields
  dsimp only
  cases fields[f]? with
  | none => trivial
  | some fl => exact TR.sure (h.mono l1) fun a a' r => TR.b (TR.fieldPlace r fl) fun ρ2 x y l2 q => TR.ret (.ptr q)
/-- an address or none -/
def OpR (ρ : Rn) : Option Addr → Option Addr → Prop
  | none, none => True
  | some a, some a' => AdR ρ a a'
  | _, _ => False
theorem TR.indexI (t : TypeId) {x x' i i' : Value} (h : VR ρ x x') (g : VR ρ i i') : TR P VR ρ (Instr.indexAt t x i) (Instr.indexAt t x' i') := by
  refine TR.intOf g fun ρ1 k n l1 _ _ => ?_
  dsimp only
  refine TR.und t fun ρ2 d l2 e => ?_
  have h2 := h.mono (l1.trans l2)
  have tail : ∀ (ρ : Rn) (a a' : Addr) (len : Nat) (elem : TypeId) (c : Prop) [Decidable c] (u : Unsupported), Ord (.unsupported u) → (0 < len → AdR ρ a a') → TR P VR ρ
      (if 0 ≤ n ∧ n < ↑len then do pure (Value.pointer (some (a.add (n.toNat * (← sizeOf elem))))) else if c then Go.unsupported u else boundsPanic k n len .index)
      (if 0 ≤ n ∧ n < ↑len then do pure (Value.pointer (some (a'.add (n.toNat * (← sizeOf elem))))) else if c then Go.unsupported u else boundsPanic k n len .index) := by
    intro ρ a a' len elem c _ u hu r
    split
    · rename_i hb
      exact TR.size _ fun ρ1 m l => TR.ret (.ptr (((r (by omega)).mono l).add _))
    · split
      · exact hu
      · exact TR.bounds _ _ _ _
  cases d <;> first | exact True.intro | skip
  · cases h2 with
    | nilSlice l c =>
      simp only [pb]
      exact TR.und t fun ρ3 d3 l3 e3 => TR.bounds _ _ _ _
    | slice l c r =>
      simp only [pb]
      exact TR.und t fun ρ3 d3 l3 e3 => tail ρ3 _ _ _ _ _ _ True.intro fun p => (r (by omega)).mono l3
    | _ => exact True.intro
  · refine TR.sure h2 fun a a' r => ?_
    simp only [pb]
    exact TR.und t fun ρ3 d3 l3 e3 => tail ρ3 a a' _ _ _ _ True.intro fun _ => r.mono l3
theorem TR.sliceBound {x x' : Value} (h : VR ρ x x') (y : Nat) (c : BoundsCode) {f : Nat → Sem γ} {g : Nat → Sem δ} (k : ∀ ρ' n, n ≤ y → Rn.le ρ ρ' → TR P SS ρ' (f n) (g n)) : TR P SS ρ (Instr.sliceBound x y c >>= f) (Instr.sliceBound x' y c >>= g) := by
  refine TR.b (RR := fun _ p q => p = q ∧ p ≤ y) ?_ fun ρ' a b l e => by obtain ⟨rfl, h⟩ := e; exact k ρ' a h l
  refine TR.intOf h fun ρ1 k n l1 _ _ => ?_
  dsimp only
  split
  · rename_i hb
    exact TR.ret ⟨rfl, by omega⟩
  · exact TR.bounds _ _ _ _
/-- a value or none -/
def OvR (ρ : Rn) : Option Value → Option Value → Prop
  | none, none => True
  | some a, some a' => VR ρ a a'
  | _, _ => False
theorem OvR.mono {ρ ρ' : Rn} (h : Rn.le ρ ρ') {a a' : Option Value} (g : OvR ρ a a') : OvR ρ' a a' := by
  cases a <;> cases a' <;> first | trivial | exact VR.mono h g | exact g.elim
def Bnd (len cap : Nat) : Rn → Nat × Nat × Nat → Nat × Nat × Nat → Prop := fun _ p q => p = q ∧ (len + cap = 0 → p.2.1 + p.2.2 = 0)
theorem TR.sliceBounds (b : Bool) (len cap : Nat) {lo lo' hi hi' m m' : Option Value} (h1 : OvR ρ lo lo') (h2 : OvR ρ hi hi') (h3 : OvR ρ m m') :
    TR P (Bnd len cap) ρ (Instr.sliceBounds b len cap lo hi m) (Instr.sliceBounds b len cap lo' hi' m') := by
  unfold Instr.sliceBounds
  have last : ∀ (ρ1 : Rn) (m0 h0 : Nat) (c : BoundsCode), (len + cap = 0 → h0 + m0 = 0) → Rn.le ρ ρ1 → TR P (Bnd len cap) ρ1
      (match (generalizing := false) lo with | some v => do let l ← Instr.sliceBound v h0 c; pure (l, h0, m0) | none => do let l ← pure 0; pure (l, h0, m0))
      (match (generalizing := false) lo' with | some v => do let l ← Instr.sliceBound v h0 c; pure (l, h0, m0) | none => do let l ← pure 0; pure (l, h0, m0)) := by
    intro ρ1 m0 h0 c hz l1
    cases lo <;> cases lo' <;> first | exact h1.elim | skip
    · exact TR.ret ⟨rfl, hz⟩
    · exact TR.sliceBound (VR.mono l1 h1) _ _ fun ρ2 n hn l2 => TR.ret ⟨rfl, hz⟩
  cases m <;> cases m' <;> first | exact h3.elim | skip
  · dsimp only
    simp only [pb]
    cases hi <;> cases hi' <;> first | exact h2.elim | skip
    · exact last ρ _ _ _ (fun h => h) (Rn.le.refl _)
    · exact TR.sliceBound h2 _ _ fun ρ2 n hn l2 => last ρ2 _ _ _ (fun h => by omega) l2
  · refine TR.sliceBound h3 _ _ fun ρ2 m0 hm l2 => ?_
    dsimp only
    cases hi <;> cases hi' <;> first | exact h2.elim | skip
    · exact True.intro
    · exact TR.sliceBound (VR.mono l2 h2) _ _ fun ρ3 n hn l3 => last ρ3 _ _ _ (fun h => by omega) (l2.trans l3)
end
end Go.Proofs.YtgjhmbbbkkidlaaGreatDoor.sim
/-
  Two runs side by side: slices, conversions, arithmetic, builtins.
  Conditions: none; no program in sight.
-/
namespace Go.Proofs.YtgjhmbbbkkidlaaGreatDoor.sim
open Go
section
variable {P : Program} {α β γ δ : Type} {RR : Rn → α → β → Prop} {SS : Rn → γ → δ → Prop} {ρ : Rn}
theorem AdR.ite {a a' : Addr} (h : AdR ρ a a') (c : Prop) [Decidable c] (n : Nat) : AdR ρ (if c then a else a.add n) (if c then a' else a'.add n) := by
  split
  · exact h
  · exact h.add n
theorem TR.sliceI (t : TypeId) {x x' : Value} {lo lo' hi hi' m m' : Option Value} (h : VR ρ x x') (h1 : OvR ρ lo lo') (h2 : OvR ρ hi hi') (h3 : OvR ρ m m') :
    TR P VR ρ (Instr.sliceAt t x lo hi m) (Instr.sliceAt t x' lo' hi' m') := by
  have hm : m.isSome = m'.isSome := by
    cases m <;> cases m' <;> first | rfl | exact h3.elim
  have slow : ∀ {ρ1 : Rn}, Rn.le ρ ρ1 → TR P VR ρ1 (Instr.slice t x lo hi m) (Instr.slice t x' lo' hi' m') := by
    intro ρ1 l1
    refine TR.und t fun ρ2 d l2 e => ?_
    have hx := h.mono (l1.trans l2)
    have g1 := h1.mono (l1.trans l2)
    have g2 := h2.mono (l1.trans l2)
    have g3 := h3.mono (l1.trans l2)
    cases d <;> first | exact True.intro | skip
    · cases hx with
      | string s =>
        dsimp only
        rw [hm]
        split
        · exact True.intro
        · refine TR.b (TR.sliceBounds false _ _ g1 g2 (m := none) (m' := none) trivial) fun ρ3 a b l3 e => ?_
          obtain ⟨rfl, _⟩ := e
          exact TR.ret (.string _)
      | _ => exact True.intro
    · refine TR.addr hx fun a a' r => TR.und _ fun ρ3 d3 l3 e3 => ?_
      cases d3 <;> first | exact True.intro | skip
      refine TR.b (TR.sliceBounds false _ _ (g1.mono l3) (g2.mono l3) (g3.mono l3)) fun ρ4 p q l4 e4 => ?_
      obtain ⟨rfl, _⟩ := e4
      exact TR.size _ fun ρ5 n l5 => TR.ret (.slice _ _ fun _ => ((r.mono l3).mono (l4.trans l5)).ite _ _)
    · cases hx with
      | nilSlice l c =>
        refine TR.b (TR.sliceBounds true _ _ g1 g2 g3) fun ρ4 p q l4 e4 => ?_
        obtain ⟨rfl, _⟩ := e4
        refine TR.size _ fun ρ5 n l5 => TR.ret ?_
        split
        · exact .nilSlice _ _
        · exact .nilSlice _ _
      | slice l c r =>
        refine TR.b (TR.sliceBounds true _ _ g1 g2 g3) fun ρ4 p q l4 e4 => ?_
        obtain ⟨rfl, e5⟩ := e4
        have hr : 0 < p.2.1 - p.1 + (p.2.2 - p.1) → 0 < l + c := fun h => Nat.pos_of_ne_zero fun z => by
          have := e5 z
          omega
        refine TR.size _ fun ρ5 n l5 => TR.ret ?_
        split
        · exact .slice _ _ fun h => (r (hr h)).mono (l4.trans l5)
        · exact .slice _ _ fun h => ((r (hr h)).mono (l4.trans l5)).add _
      | _ => exact True.intro
  refine TR.und t fun ρ1 d l1 e => ?_
  cases d <;> first | exact slow l1 | skip
  refine TR.sure (h.mono l1) fun a a' r => ?_
  refine TR.b (TR.sliceBounds false _ _ (h1.mono l1) (h2.mono l1) (h3.mono l1)) fun ρ4 p q l4 e4 => ?_
  obtain ⟨rfl, _⟩ := e4
  exact TR.size _ fun ρ5 n l5 => TR.ret (.slice _ _ fun _ => (r.mono (l4.trans l5)).ite _ _)
theorem TR.ifaceI (t : TypeId) {x x' : Value} (h : VR ρ x x') : TR P VR ρ (Instr.makeInterface t x) (Instr.makeInterface t x') := by
  refine TR.und t fun ρ1 d l1 e => ?_
  cases d <;> first | exact True.intro | exact TR.ret (.iface (h.mono l1))
theorem TR.extractI {x x' : Value} (h : VR ρ x x') (i : Nat) : TR P VR ρ (Instr.extract x i) (Instr.extract x' i) := by
  cases h with
  | tuple a b =>
    rename_i c c'
    show TR P VR ρ (match c[i]? with | some v => pure v | none => Go.stuck "Extract: no such component") (match c'[i]? with | some v => pure v | none => Go.stuck "Extract: no such component")
    cases e : c[i]? with
    | none => exact True.intro
    | some v =>
      obtain ⟨v', e', r⟩ := ArR.get ⟨a, b⟩ e
      rw [e']
      exact TR.ret r
  | _ => exact True.intro
theorem pairR {v v' : Value} (h : VR ρ v v') (b : Bool) : VR ρ (.tuple #[v, .bool b]) (.tuple #[v', .bool b]) :=
  let q : ArR ρ #[v, .bool b] #[v', .bool b] := ((ArR.nil ρ).push h).push (.bool b)
  .tuple q.1 q.2
theorem TR.assertI {x x' : Value} (h : VR ρ x x') (t a : TypeId) (hz : Zt P a) : TR P VR ρ (Instr.typeAssert x t a true) (Instr.typeAssert x' t a true) := by
  have fails : ∀ {ρ : Rn}, TR P VR ρ (do pure (Value.tuple #[← zeroValue a, .bool false])) (do pure (Value.tuple #[← zeroValue a, .bool false])) :=
    fun {ρ} => TR.zero a hz fun ρ1 z l1 hz => TR.ret (pairR (hz ρ1) false)
  refine TR.und a fun ρ1 d l1 e => ?_
  have hx := h.mono l1
  cases hx with
  | nilIface => cases d <;> exact fails
  | iface r =>
    rename_i ty w w'
    have rest : TR P VR ρ1 (if ty = a then pure (Value.tuple #[w, .bool true]) else do pure (Value.tuple #[← zeroValue a, .bool false])) (if ty = a then pure (Value.tuple #[w', .bool true]) else do pure (Value.tuple #[← zeroValue a, .bool false])) := by
      split
      · exact TR.ret (pairR r true)
      · exact fails
    cases d <;> first | exact rest | skip
    refine TR.info ty fun ρ2 i l2 e2 => ?_
    cases Instr.missingMethod _ i.methods with
    | none => exact TR.ret (pairR (.iface (r.mono l2)) true)
    | some m => exact fails
  | _ => cases d <;> exact True.intro
end
end Go.Proofs.YtgjhmbbbkkidlaaGreatDoor.sim
/-
  Two runs side by side: builtins, rows of cells, arithmetic.
  Conditions: none; no program in sight.
-/
namespace Go.Proofs.YtgjhmbbbkkidlaaGreatDoor.sim
open Go
section
variable {P : Program} {α β γ δ : Type} {RR : Rn → α → β → Prop} {SS : Rn → γ → δ → Prop} {ρ : Rn}
theorem TR.lenI (ts : Array TypeId) (ty : TypeId) {xs xs' : Array Value} (hs : ArR ρ xs xs') : TR P VR ρ (Builtin.len_ ts ty xs) (Builtin.len_ ts ty xs') := by
  unfold Builtin.len_
  cases ts[0]? with
  | none => cases xs[0]? <;> exact True.intro
  | some t =>
  cases e1 : xs[0]? with
  | none => exact True.intro
  | some x =>
  obtain ⟨x', e2, h⟩ := hs.get e1
  rw [e2]
  show TR P VR ρ (underlying t >>= _) (underlying t >>= _)
  refine TR.und t fun ρ1 d l1 e => ?_
  cases d <;> first
    | exact TR.ret (VR.int _ _)
    | (refine TR.und _ fun ρ2 d2 l2 e2 => ?_
       cases d2 <;> first | exact True.intro | exact TR.ret (VR.int _ _))
    | (cases h <;> first | exact True.intro | exact TR.ret (VR.int _ _))
    | (cases h with
       | map r => cases r <;> first | exact True.intro | exact Or.inl (fun _ _ => True.intro) | exact TR.ret (VR.int _ _)
       | chan r => cases r <;> first | exact True.intro | exact Or.inl (fun _ _ => True.intro) | exact TR.ret (VR.int _ _)
       | _ => exact True.intro)
theorem TR.lenOf {x x' : Value} (h : VR ρ x x') {f : Nat → Sem γ} {g : Nat → Sem δ} (k : ∀ n, (∀ a l c, x = .slice a l c → n = l) → TR P SS ρ (f n) (g n)) : TR P SS ρ (Builtin.lenOf x >>= f) (Builtin.lenOf x' >>= g) := by
  cases h <;> first | exact True.intro | exact k _ (fun _ _ _ e => by cases e; rfl) | exact k _ (fun _ _ _ e => by cases e)
theorem TR.firstCells {x x' : Value} (h : VR ρ x x') (s n : Nat) (hn : ∀ a l c, x = .slice a l c → n ≤ l) : TR P (fun ρ c c' => ArR ρ c c' ∧ (n = 0 → c = #[])) ρ (Builtin.firstCells s n x) (Builtin.firstCells s n x') := by
  cases h with
  | slice l c r =>
    rcases Nat.eq_zero_or_pos n with rfl | hp
    · show TR P _ ρ (loadCells _ (0 * s)) (loadCells _ (0 * s))
      rw [Nat.zero_mul]
      exact TR.ret ⟨ArR.nil _, fun _ => rfl⟩
    · exact TR.imp (fun ρ a b q => ⟨q, fun z => by omega⟩) _ _ (TR.cells (r (by have := hn _ _ _ rfl; omega)) _)
  | nilSlice l c => exact TR.ret ⟨ArR.nil _, fun _ => rfl⟩
  | string s =>
    refine TR.ret ⟨⟨rfl, fun i v v' h1 h2 => ?_⟩, fun z => by subst z; simp⟩
    rw [h1] at h2
    cases h2
    rw [Array.getElem?_map] at h1
    cases e : (s.extract 0 n).data[i]? with
    | none => rw [e] at h1; cases h1
    | some b => rw [e] at h1; cases h1; exact .int _ _
  | _ => exact True.intro
theorem TR.copyI (ts : Array TypeId) (ty : TypeId) {xs xs' : Array Value} (hs : ArR ρ xs xs') : TR P VR ρ (Builtin.copy_ ts ty xs) (Builtin.copy_ ts ty xs') := by
  unfold Builtin.copy_
  cases ts[0]? with
  | none => cases xs[0]? <;> cases xs[1]? <;> exact True.intro
  | some t =>
  cases e1 : xs[0]? with
  | none => cases xs[1]? <;> exact True.intro
  | some x =>
  obtain ⟨x', e2, h⟩ := hs.get e1
  cases e3 : xs[1]? with
  | none => exact True.intro
  | some y =>
  obtain ⟨y', e4, g⟩ := hs.get e3
  rw [e2, e4]
  show TR P VR ρ (underlying t >>= _) (underlying t >>= _)
  refine TR.und t fun ρ1 d l1 e => ?_
  have h1 := h.mono l1
  have g1 := g.mono l1
  cases d <;> first | exact True.intro | skip
  cases h1 with
  | nilSlice l c =>
    refine TR.lenOf g1 fun n hn => TR.size _ fun ρ2 s l2 => TR.b (TR.firstCells (g1.mono l2) _ _ fun a l c e => by have := hn a l c e; exact Nat.le_trans (Nat.min_le_left _ _) (by omega)) fun ρ3 a b l3 r => ?_
    exact TR.ret (VR.int _ _)
  | slice l c r =>
    refine TR.lenOf g1 fun n hn => TR.size _ fun ρ2 s l2 => TR.b (TR.firstCells (g1.mono l2) _ _ fun a l c e => by have := hn a l c e; exact Nat.le_trans (Nat.min_le_left _ _) (by omega)) fun ρ3 a b l3 q => ?_
    refine TR.b (TR.storeCells0 _ _ 0 (fun hne => ((r ?_).mono l2).mono l3) (ArR.list q.1)) fun ρ4 _ _ l4 _ => TR.ret (.int _ _)
    apply Nat.pos_of_ne_zero
    intro z
    have hl : l = 0 := by omega
    refine hne ?_
    rw [q.2 (by rw [hl]; exact Nat.min_zero _)]
  | _ => exact True.intro
theorem ArR.rep (x : Value) (h : VR ρ x x) (n : Nat) : ArR ρ (Array.replicate n x) (Array.replicate n x) := by
  refine ⟨rfl, fun i v v' h1 h2 => ?_⟩
  rw [h1] at h2
  cases h2
  rw [Array.getElem?_replicate] at h1
  split at h1
  · cases h1; exact h
  · cases h1
theorem ArR.self {c : Array Value} (h : ∀ v ∈ c, VR ρ v v) : ArR ρ c c := by
  refine ⟨rfl, fun i v v' h1 h2 => ?_⟩
  rw [h1] at h2
  cases h2
  exact h v (Array.mem_of_getElem? h1)
/-- cells made from a zero value, over and over -/
theorem ArR.zeros {z : Array Value} (h : ArR ρ z z) (hz : 0 < z.size) (n : Nat) : ArR ρ ((Array.range n).map (fun i => z[i % z.size]!)) ((Array.range n).map (fun i => z[i % z.size]!)) := by
  refine ArR.self fun v hv => ?_
  obtain ⟨i, _, rfl⟩ := Array.mem_map.1 hv
  have hl : i % z.size < z.size := Nat.mod_lt _ hz
  have : z[i % z.size]? = some (z[i % z.size]!) := by
    rw [getElem!_pos z _ hl]
    exact Array.getElem?_eq_getElem hl
  exact h.2 _ _ _ this this
theorem ArR.zeros0 {z : Array Value} (h : ArR ρ z z) (n : Nat) (hn : 0 < n → 0 < z.size) : ArR ρ ((Array.range n).map (fun i => z[i % z.size]!)) ((Array.range n).map (fun i => z[i % z.size]!)) := by
  rcases Nat.eq_zero_or_pos n with rfl | h1
  · exact ⟨rfl, fun i v v' h => by simp at h⟩
  · exact h.zeros (hn h1) n
theorem ArR.zeroCells {z : Array Value} (h : ArR ρ z z) (n : Nat) : ArR ρ (Builtin.zeroCells z n) (Builtin.zeroCells z n) := by
  refine h.zeros0 (n * z.size) fun h1 => ?_
  exact Nat.pos_of_mul_pos_left h1
theorem TR.room (n : Nat) {f : Unit → Sem γ} {g : Unit → Sem δ} (k : ∀ ρ', Rn.le ρ ρ' → TR P SS ρ' (f ()) (g ())) : TR P SS ρ (askRoom n >>= f) (askRoom n >>= g) := by
  refine TR.b (RR := Same) ?_ fun ρ' a b l e => k ρ' l
  unfold askRoom
  split
  · exact .inr ⟨rfl, _, rfl, fun ρ' l => TR.ret rfl⟩
  · exact TR.ret rfl
end
end Go.Proofs.YtgjhmbbbkkidlaaGreatDoor.sim
