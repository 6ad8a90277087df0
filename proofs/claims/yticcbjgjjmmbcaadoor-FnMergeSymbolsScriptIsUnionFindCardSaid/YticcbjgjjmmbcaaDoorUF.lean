/-
  Plain law of a script of merges: labels and chain ends give the same classes, and the use counts' sum over the ends stays.
  Conditions: none.
-/
import Derived.Test.YticcbjgjjmmbcaaDoorMerge
import Derived.Test.YticcbjgjjmmbcaaDoorCut
namespace Go.Proofs.YticcbjgjjmmbcaaDoor.uf
open chain cut

def sumTo (f : Nat → Nat) : Nat → Nat
  | 0 => 0
  | k + 1 => sumTo f k + f k
theorem sumTo_congr {f g : Nat → Nat} {n : Nat} (h : ∀ x, x < n → f x = g x) : sumTo f n = sumTo g n := by
  induction n with
  | zero => rfl
  | succ n ih => simp only [sumTo]; rw [ih (fun x hx => h x (by omega)), h n (by omega)]
theorem sumTo_upd {f g : Nat → Nat} {n a : Nat} (ha : a < n) (h : ∀ x, x < n → x ≠ a → g x = f x) : sumTo g n + f a = sumTo f n + g a := by
  induction n with
  | zero => omega
  | succ n ih =>
    simp only [sumTo]
    by_cases e : a = n
    · subst e
      have := sumTo_congr (f := g) (g := f) (n := a) (fun x hx => h x (by omega) (by omega))
      omega
    · have h1 := ih (by omega) (fun x hx hne => h x (by omega) hne)
      have h2 := h n (by omega) (fun q => e q.symm)
      omega
theorem sumTo_two {f g : Nat → Nat} {n a b : Nat} (ha : a < n) (hb : b < n) (hne : a ≠ b) (h : ∀ x, x < n → x ≠ a → x ≠ b → g x = f x) (h0 : g a = 0) (h1 : g b = (f b + f a) % 4294967296) : sumTo g n % 4294967296 = sumTo f n % 4294967296 := by
  have e1 := sumTo_upd (f := f) (g := fun x => if x = a then 0 else f x) ha (fun x _ hx => if_neg hx)
  have e2 := sumTo_upd (f := fun x => if x = a then 0 else f x) (g := g) hb (fun x hx hxb => by
    by_cases e : x = a
    · subst e; simp only [if_true]; exact h0
    · simp only [if_neg e]; exact h x hx e hxb)
  simp only [if_true, if_neg (fun e => hne e.symm : ¬ b = a)] at e1 e2
  rw [h1] at e2
  omega

section
variable (zs : List Int) (n : Nat)
/-- the flat list's refs are the table's symbols -/
def Flat (σ : Tab) : Prop := ∀ q, Valid (srcs zs n) σ q ↔ ∃ x, x < n ∧ q = ref zs n x
theorem flat_lay (f : Nat → Sym) : Flat zs n (lay zs n f) := by
  intro q
  constructor
  · rintro ⟨h1, h2⟩
    rw [lay_length] at h2
    obtain ⟨h3, h4⟩ := ref_flat zs n h1 h2
    exact ⟨_, h3, h4.symm⟩
  · rintro ⟨x, hx, rfl⟩
    exact lay_valid zs n f hx
def rootSum (σ : Tab) : Nat := sumTo (fun x => if lnk σ (ref zs n x) = inv then (symAt σ (ref zs n x)).use else 0) n
structure Uf (σ : Tab) (lab : Nat → Nat) (B : Nat) : Prop where
  flat : Flat zs n σ
  flags : ∀ q, Valid (srcs zs n) σ q → (symAt σ q).flags = 0
  ends : ∀ q, Valid (srcs zs n) σ q → ∃ e r, Chain (srcs zs n) σ e q r
  lt : ∀ x, x < n → lab x < n
  part : ∀ d root, chain.Sys (srcs zs n) σ d root → ∀ x y, x < n → y < n → (lab x = lab y ↔ root (ref zs n x) = root (ref zs n y))
  sum : rootSum zs n σ % 4294967296 = B % 4294967296
end
section
variable {zs : List Int} {n : Nat} {σ τ : Tab} {lab : Nat → Nat} {B : Nat}
theorem Uf.val (h : Uf zs n σ lab B) {x : Nat} (hx : x < n) : Valid (srcs zs n) σ (ref zs n x) := (h.flat _).2 ⟨x, hx, rfl⟩
theorem Uf.follow (h : Uf zs n σ lab B) (hS : srcs zs n ≤ 1048576) {d : Nat} {p r : Ref} (hc : Chain (srcs zs n) σ d p r) : Uf zs n (relink σ (path σ d p) r) lab B := by
  have hri : r ≠ inv := fun e => inv_not hS (e ▸ hc.root.valid)
  have hlk : ∀ q, Valid (srcs zs n) σ q → (lnk (relink σ (path σ d p) r) q = inv ↔ lnk σ q = inv) := fun q hq => by
    rw [relink_lnk σ _ r hq]
    by_cases hm : q ∈ path σ d p
    · rw [if_pos hm]
      obtain ⟨e, _, h2⟩ := Chain.of_mem hc hm
      exact ⟨fun e => absurd e hri, fun e => absurd e h2.2.1⟩
    · rw [if_neg hm]
  refine ⟨fun q => (relink_valid ..).trans (h.flat q), fun q hq => ?_, fun q hq => ?_, h.lt, fun d' root' hs' x y hx hy => ?_, ?_⟩
  · have hq2 := (relink_valid ..).1 hq
    rw [relink_at σ _ r hq2]
    split
    · exact h.flags q hq2
    · exact h.flags q hq2
  · obtain ⟨e, t, h1⟩ := h.ends q ((relink_valid ..).1 hq)
    obtain ⟨e2, h2⟩ := Chain.after hc h1 hri
    exact ⟨e2, t, h2⟩
  · obtain ⟨d0, root, hs⟩ := Sys.of h.ends
    have same : ∀ z, z < n → root' (ref zs n z) = root (ref zs n z) := fun z hz => by
      obtain ⟨e2, h2⟩ := Chain.after hc (hs _ (h.val hz)) hri
      exact ((hs' _ ((relink_valid ..).2 (h.val hz))).uniq h2).2
    rw [same x hx, same y hy]
    exact h.part d0 root hs x y hx hy
  · have e : rootSum zs n (relink σ (path σ d p) r) = rootSum zs n σ := sumTo_congr (fun x hx => by
      have hv := h.val hx
      rw [relink_use σ _ r hv]
      by_cases hh : lnk σ (ref zs n x) = inv
      · rw [if_pos hh, if_pos ((hlk _ hv).2 hh)]
      · rw [if_neg hh, if_neg (fun e => hh ((hlk _ hv).1 e))])
    rw [e]; exact h.sum
theorem Uf.merge (h : Uf zs n σ lab B) {d : Ref → Nat} {root : Ref → Ref} (hs : chain.Sys (srcs zs n) σ d root) {xo xn : Nat} (hxo : xo < n) (hxn : xn < n) (hm : Mg (srcs zs n) σ d root (root (ref zs n xo)) (root (ref zs n xn)) τ) :
    Uf zs n τ (fun x => if lab x = lab xo then lab xn else lab x) B := by
  refine ⟨fun q => hm.valid.trans (h.flat q), fun q hq => hm.flags q (hm.valid.1 hq), fun q hq => ?_, fun x hx => ?_, fun d' root' hs' x y hx hy => ?_, ?_⟩
  · obtain ⟨e, hc⟩ := hm.chain hs _ q (Nat.le_refl _) (hm.valid.1 hq)
    exact ⟨e, _, hc⟩
  · split
    · exact h.lt _ hxn
    · exact h.lt _ hx
  · have same : ∀ z, z < n → root' (ref zs n z) = cls root (root (ref zs n xo)) (root (ref zs n xn)) (ref zs n z) := fun z hz => by
      obtain ⟨e, hc⟩ := hm.chain hs _ _ (Nat.le_refl _) (h.val hz)
      exact ((hs' _ (hm.valid.2 (h.val hz))).uniq hc).2
    rw [same x hx, same y hy]
    unfold cls
    have p := fun a b (ha : a < n) (hb : b < n) => h.part d root hs a b ha hb
    by_cases hx1 : lab x = lab xo
    · rw [if_pos hx1, if_pos ((p x xo hx hxo).1 hx1)]
      by_cases hy1 : lab y = lab xo
      · rw [if_pos hy1, if_pos ((p y xo hy hxo).1 hy1)]; simp
      · rw [if_neg hy1, if_neg (fun e => hy1 ((p y xo hy hxo).2 e))]
        exact p xn y hxn hy
    · rw [if_neg hx1, if_neg (fun e => hx1 ((p x xo hx hxo).2 e))]
      by_cases hy1 : lab y = lab xo
      · rw [if_pos hy1, if_pos ((p y xo hy hxo).1 hy1)]
        exact p x xn hx hxn
      · rw [if_neg hy1, if_neg (fun e => hy1 ((p y xo hy hxo).2 e))]
        exact p x y hx hy
  · by_cases hne : root (ref zs n xo) = root (ref zs n xn)
    · have e : rootSum zs n τ = rootSum zs n σ := sumTo_congr (fun x hx => by
        have hv := h.val hx
        have hu : (symAt τ (ref zs n x)).use = (symAt σ (ref zs n x)).use := by rw [hm.use _ hv, if_neg (fun hh => hh.2 hne)]
        rw [hu]
        by_cases hh : lnk σ (ref zs n x) = inv
        · rw [if_pos hh, if_pos (hm.roots _ hv hh (.inr hne))]
        · rw [if_neg hh, if_neg (fun e => hh (hm.noNew _ hv e))])
      rw [e]; exact h.sum
    · obtain ⟨o1, o2, _, _⟩ := hs.ends (h.val hxo)
      obtain ⟨n1, n2, _, _⟩ := hs.ends (h.val hxn)
      obtain ⟨a, ha, ea⟩ := (h.flat _).1 o1
      obtain ⟨b, hb, eb⟩ := (h.flat _).1 n1
      rw [← h.sum]
      have hab : a ≠ b := fun e => hne (by rw [ea, eb, e])
      refine sumTo_two ha hb hab (fun x hx hxa hxb => ?_) ?_ ?_
      · have hv := h.val hx
        have hxo2 : ref zs n x ≠ root (ref zs n xo) := fun e => hxa (ref_inj zs n hx ha (e.trans ea))
        have hxn2 : ref zs n x ≠ root (ref zs n xn) := fun e => hxb (ref_inj zs n hx hb (e.trans eb))
        have hu : (symAt τ (ref zs n x)).use = (symAt σ (ref zs n x)).use := by rw [hm.use _ hv, if_neg (fun hh => hxn2 hh.1)]
        rw [hu]
        by_cases hh : lnk σ (ref zs n x) = inv
        · rw [if_pos hh, if_pos (hm.roots _ hv hh (.inl hxo2))]
        · rw [if_neg hh, if_neg (fun e => hh (hm.noNew _ hv e))]
      · rw [← ea, if_neg (hm.done hne)]
      · rw [← ea, ← eb, if_pos o2, if_pos n2, if_pos (hm.roots _ n1 n2 (.inl (fun e => hne e.symm))), hm.use _ n1, if_pos ⟨rfl, hne⟩]

/-- the links as flat indices -/
noncomputable def tgt (zs : List Int) (n : Nat) (σ : Tab) (x : Nat) : Int := by
  classical exact if h : ∃ y, y < n ∧ lnk σ (ref zs n x) = ref zs n y then ((h.choose : Nat) : Int) else -1
theorem ref_inv {y : Nat} (hy : y < n) (hS : srcs zs n ≤ 1048576) : ref zs n y ≠ inv := fun e => by
  have h := (ref_ok zs n hy).2.2.1
  rw [e] at h
  simp only [inv] at h
  omega
theorem Uf.tgt_or (h : Uf zs n σ lab B) (hS : srcs zs n ≤ 1048576) {x : Nat} (hx : x < n) : (lnk σ (ref zs n x) = inv ∧ tgt zs n σ x = -1) ∨ ∃ y : Nat, y < n ∧ lnk σ (ref zs n x) = ref zs n y ∧ tgt zs n σ x = (y : Int) := by
  by_cases hl : lnk σ (ref zs n x) = inv
  · left
    refine ⟨hl, ?_⟩
    unfold tgt
    rw [dif_neg]
    rintro ⟨y, hy, e⟩
    exact ref_inv hy hS (e.symm.trans hl)
  · right
    obtain ⟨d, root, hs⟩ := Sys.of h.ends
    obtain ⟨y, hy, e⟩ := (h.flat _).1 (hs.step (h.val hx) hl).1
    have hx2 : ∃ y, y < n ∧ lnk σ (ref zs n x) = ref zs n y := ⟨y, hy, e⟩
    refine ⟨hx2.choose, hx2.choose_spec.1, hx2.choose_spec.2, ?_⟩
    unfold tgt
    rw [dif_pos hx2]
theorem Uf.tgt_lt (h : Uf zs n σ lab B) (hS : srcs zs n ≤ 1048576) {x : Nat} (hx : x < n) : tgt zs n σ x < (n : Int) := by
  rcases h.tgt_or hS hx with ⟨_, e⟩ | ⟨y, hy, _, e⟩ <;> rw [e] <;> omega
theorem Uf.fchain (h : Uf zs n σ lab B) (hS : srcs zs n ≤ 1048576) : ∀ (e x : Nat) (r : Ref), x < n → Chain (srcs zs n) σ e (ref zs n x) r → ∃ y, y < n ∧ r = ref zs n y ∧ FChain n (tgt zs n σ) e x y := by
  intro e
  induction e with
  | zero =>
    intro x r hx hc
    refine ⟨x, hx, hc.2.2.symm, hx, ?_, rfl⟩
    rcases h.tgt_or hS hx with ⟨_, e⟩ | ⟨y, hy, e, _⟩
    · rw [e]; omega
    · exact absurd (e.symm.trans hc.2.1) (ref_inv hy hS)
  | succ e ih =>
    intro x r hx hc
    rcases h.tgt_or hS hx with ⟨e1, _⟩ | ⟨y, hy, e1, e2⟩
    · exact absurd e1 hc.2.1
    · have hc2 := hc.2.2
      rw [e1] at hc2
      obtain ⟨z, hz, h1, h2⟩ := ih y r hy hc2
      refine ⟨z, hz, h1, hx, by rw [e2]; omega, ?_⟩
      rw [e2]
      simpa using h2
/-- the answer's classes are the labels' -/
theorem Uf.classes (h : Uf zs n σ lab B) (hS : srcs zs n ≤ 1048576) {R : Nat → Nat} (hR : ∀ i, i < n → ∃ d, FChain n (tgt zs n σ) d i (R i)) : (∀ x, x < n → R x < n) ∧ ∀ x y, x < n → y < n → (lab x = lab y ↔ R x = R y) := by
  obtain ⟨d, root, hs⟩ := Sys.of h.ends
  have key : ∀ x, x < n → R x < n ∧ root (ref zs n x) = ref zs n (R x) := fun x hx => by
    obtain ⟨z, hz, h1, h2⟩ := h.fchain hS _ x _ hx (hs _ (h.val hx))
    obtain ⟨e, h3⟩ := hR x hx
    have := (FChain.uniq h2 h3).2
    subst this
    exact ⟨hz, h1⟩
  refine ⟨fun x hx => (key x hx).1, fun x y hx hy => ?_⟩
  rw [h.part d root hs x y hx hy, (key x hx).2, (key y hy).2]
  exact ⟨fun e => ref_inj zs n (key x hx).1 (key y hy).1 e, fun e => by rw [e]⟩
end
/-- the two tables of the last check behind k rounds -/
def setAt (f : Nat → Int) (x : Nat) (v : Int) : Nat → Int := fun j => if j = x then v else f j
def bij (lab R : Nat → Nat) : Nat → (Nat → Int) × (Nat → Int)
  | 0 => (fun _ => -1, fun _ => -1)
  | k + 1 => if (bij lab R k).1 (lab k) = -1 then (setAt (bij lab R k).1 (lab k) (R k : Int), setAt (bij lab R k).2 (R k) (lab k : Int)) else bij lab R k
theorem bij_inv {lab R : Nat → Nat} {n : Nat} (h : ∀ x y, x < n → y < n → (lab x = lab y ↔ R x = R y)) (k : Nat) (hk : k ≤ n) :
    (∀ y, y < k → (bij lab R k).1 (lab y) = (R y : Int) ∧ (bij lab R k).2 (R y) = (lab y : Int)) ∧ (∀ l, (bij lab R k).1 l = -1 ∨ ∃ y, y < k ∧ lab y = l) ∧ (∀ q, (bij lab R k).2 q = -1 ∨ ∃ y, y < k ∧ R y = q) := by
  induction k with
  | zero => exact ⟨fun y hy => by omega, fun _ => .inl rfl, fun _ => .inl rfl⟩
  | succ k ih =>
    obtain ⟨i1, i2, i3⟩ := ih (by omega)
    simp only [bij]
    by_cases c : (bij lab R k).1 (lab k) = -1
    · rw [if_pos c]
      have hno : ∀ y, y < k → lab y ≠ lab k := fun y hy e => by
        have := (i1 y hy).1
        rw [e, c] at this
        omega
      have hno2 : ∀ y, y < k → R y ≠ R k := fun y hy e => hno y hy ((h y k (by omega) (by omega)).2 e)
      refine ⟨fun y hy => ?_, fun l => ?_, fun q => ?_⟩
      · by_cases e : y = k
        · subst e; simp [setAt]
        · have hy2 : y < k := by omega
          simp only [setAt, if_neg (hno y hy2), if_neg (hno2 y hy2)]
          exact i1 y hy2
      · by_cases e : l = lab k
        · exact .inr ⟨k, by omega, e.symm⟩
        · simp only [setAt, if_neg e]
          rcases i2 l with h1 | ⟨y, hy, e2⟩
          · exact .inl h1
          · exact .inr ⟨y, by omega, e2⟩
      · by_cases e : q = R k
        · exact .inr ⟨k, by omega, e.symm⟩
        · simp only [setAt, if_neg e]
          rcases i3 q with h1 | ⟨y, hy, e2⟩
          · exact .inl h1
          · exact .inr ⟨y, by omega, e2⟩
    · rw [if_neg c]
      refine ⟨fun y hy => ?_, fun l => ?_, fun q => ?_⟩
      · by_cases e : y = k
        · subst e
          rcases i2 (lab y) with h1 | ⟨z, hz, e2⟩
          · exact absurd h1 c
          · have e3 := (h z y (by omega) (by omega)).1 e2
            have := i1 z hz
            rw [e2, e3] at this
            exact this
        · exact i1 y (by omega)
      · rcases i2 l with h1 | ⟨y, hy, e2⟩
        · exact .inl h1
        · exact .inr ⟨y, by omega, e2⟩
      · rcases i3 q with h1 | ⟨y, hy, e2⟩
        · exact .inl h1
        · exact .inr ⟨y, by omega, e2⟩
/-- a round of the last check never fails -/
theorem bij_or {lab R : Nat → Nat} {n : Nat} (h : ∀ x y, x < n → y < n → (lab x = lab y ↔ R x = R y)) {k : Nat} (hk : k < n) :
    ((bij lab R k).1 (lab k) = -1 ∧ (bij lab R k).2 (R k) = -1) ∨ ((bij lab R k).1 (lab k) = (R k : Int) ∧ (bij lab R k).2 (R k) = (lab k : Int)) := by
  obtain ⟨i1, i2, i3⟩ := bij_inv h k (by omega)
  rcases i2 (lab k) with c | ⟨z, hz, e2⟩
  · left
    refine ⟨c, ?_⟩
    rcases i3 (R k) with c2 | ⟨z, hz, e2⟩
    · exact c2
    · have e3 := (h z k (by omega) hk).2 e2
      have := (i1 z hz).1
      rw [e3, c] at this
      omega
  · right
    have e3 := (h z k (by omega) hk).1 e2
    have := i1 z hz
    rw [e2, e3] at this
    exact this
end Go.Proofs.YticcbjgjjmmbcaaDoor.uf
