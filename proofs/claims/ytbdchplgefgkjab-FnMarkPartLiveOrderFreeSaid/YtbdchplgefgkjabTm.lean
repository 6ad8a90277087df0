/-
  Files, parts and dependencies in memory over this seat's program, with the marks of what is live; contracts of Index32's functions.
  Conditions: none.
-/
import Derived.Test.YtbdchplgefgkjabTurn
import Derived.Test.YtbdchplgefgkjabMk1
import Derived.Test.YtbdchplgefgkjabDfs
import Derived.LoopTactic
import Derived.Outline
import Derived.IntWalk
import Derived.Deep.QuietTactic
import Derived.BigQuiet
import Derived.Deep.RegionHeld3
import Derived.Deep.RegionWith
import Derived.StillTailTactics
import Derived.Deep.DeepCutAuto
namespace Go.Proofs.Ytbdchplgefgkjab.tm
open Go.ChangeShapes Go.WideShapes Go.ChangeAt Go.RowKit
open kit dfs

theorem valid (a : Int) (b : Bool) (hb : (a == 0) = !b) (w : World) :
    Calls Try.prog 19 #[.agg #[.int .u32 a]] w fun e w' => e = .returned (.bool b) ∧ Kept w w' := by
  have h2 : (a != 0) = b := by rw [bne, hb]; simp
  clear hb
  go_enter Try.func19, Try.ntmps19
  go_wp2
  go_ret
  exact ⟨rfl, (Kept.refl _).alloc _⟩

/-- the content of the files: of each the parts, of each part whether it is kept and what it depends on -/
abbrev Ct := List (List (Bool × List (Nat × Nat)))
def np (F : Ct) (f : Nat) : Nat := (F.getD f []).length
def pt (F : Ct) (f p : Nat) : Bool × List (Nat × Nat) := (F.getD f []).getD p (false, [])
def keep (F : Ct) (f p : Nat) : Bool := (pt F f p).1
def deps (F : Ct) (f p : Nat) : List (Nat × Nat) := (pt F f p).2
abbrev Nd := Nat ⊕ (Nat × Nat)
def kept_ (F : Ct) (f j : Nat) : List Nd := ((List.range j).filter (keep F f)).map fun p => .inr (f, p)
def succ (F : Ct) : Nd → List Nd
  | .inl f => kept_ F f (np F f)
  | .inr (f, p) => .inl f :: (deps F f p).map .inr
theorem kept_succ (F : Ct) (f j : Nat) : kept_ F f (j + 1) = kept_ F f j ++ if keep F f j = true then [.inr (f, j)] else [] := by
  unfold kept_
  rw [List.range_succ, List.filter_append, List.map_append]
  congr 1
  cases h : keep F f j <;> simp [h]
structure Fits (n : Nat) (F : Ct) : Prop where
  len : F.length = n
  top : n ≤ 131072
  np : ∀ f, f < n → np F f ≤ 131072
  nd : ∀ f, f < n → ∀ p, p < tm.np F f → (deps F f p).length ≤ 131072
  ok : ∀ f, f < n → ∀ p, p < tm.np F f → ∀ x ∈ deps F f p, x.1 < n ∧ x.2 < tm.np F x.1
def depCells (l : List (Nat × Nat)) : List Value := l.flatMap fun x => [.int .u32 (x.1 : Int), .int .u32 (x.2 : Int)]
theorem depCells_at (l : List (Nat × Nat)) (k : Nat) (hk : k < l.length) : (depCells l)[k * 2]? = some (.int .u32 (l[k].1 : Int)) ∧ (depCells l)[k * 2 + 1]? = some (.int .u32 (l[k].2 : Int)) := by
  induction l generalizing k with
  | nil => simp at hk
  | cons x r ih =>
    cases k with
    | zero => exact ⟨rfl, rfl⟩
    | succ k =>
      have := ih k (by simpa using hk)
      have e : depCells (x :: r) = .int .u32 (x.1 : Int) :: .int .u32 (x.2 : Int) :: depCells r := rfl
      rw [e, show (k + 1) * 2 = k * 2 + 1 + 1 by omega]
      simpa using this
theorem depCells_len (l : List (Nat × Nat)) : (depCells l).length = l.length * 2 := by
  induction l with
  | nil => rfl
  | cons x r ih =>
    have e : depCells (x :: r) = .int .u32 (x.1 : Int) :: .int .u32 (x.2 : Int) :: depCells r := rfl
    rw [e]; simp [ih]; omega

structure PartAt (cs : List Value) (db nd : Nat) (k live : Bool) (o : Nat) : Prop where
  recs : cs[o + 2]? = some (.slice none 0 0)
  deps : cs[o + 7]? = some (.slice (some ⟨db, 0, none⟩) nd nd)
  keep : cs[o + 8]? = some (.bool (!k))
  force : cs[o + 9]? = some (.bool false)
  live : cs[o + 10]? = some (.bool live)

structure Mem (w : World) (cb LB ob n : Nat) (J PB : Nat → Nat) (DB : Nat → Nat → Nat) (F : Ct) (d : Nd → Bool) : Prop where
  ctx : ∃ cs, Blk w cb 206 cs ∧ cs[10]? = some (.slice (some ⟨LB, 0, none⟩) n n) ∧ cs[0]? = some (.pointer (some ⟨ob, 0, none⟩))
  opt : ∃ cs, Blk w ob 92 cs ∧ cs[94]? = some (.bool true)
  files : ∃ cs, Blk w LB 181 cs ∧ cs.length = n * 24 ∧ ∀ i, i < n → cs[i * 24 + 2]? = some (.iface 121 (.pointer (some ⟨J i, 0, none⟩))) ∧ cs[i * 24 + 23]? = some (.bool (d (.inl i)))
  js : ∀ i, i < n → ∃ cs, Blk w (J i) 154 cs ∧ cs[20]? = some (.slice (some ⟨PB i, 0, none⟩) (np F i) (np F i)) ∧ cs[63]? = some (.int .u32 0)
  parts : ∀ i, i < n → ∃ cs, Blk w (PB i) 120 cs ∧ cs.length = np F i * 11 ∧ (∀ v ∈ cs, v.oneCell' = true) ∧ ∀ p, p < np F i → PartAt cs (DB i p) (deps F i p).length (keep F i p) (d (.inr (i, p))) (p * 11)
  deps : ∀ i, i < n → ∀ p, p < np F i → Blk w (DB i p) 111 (depCells (deps F i p))
  apart : ∀ i k, i < n → k < n → PB i = PB k → i = k
  fit : Fits n F

/-- the blocks that the marking may turn -/
def MB (n LB : Nat) (PB : Nat → Nat) (b : Nat) : Prop := b = LB ∨ ∃ i, i < n ∧ PB i = b

section
variable {w w2 : World} {cb LB ob n : Nat} {J PB : Nat → Nat} {DB : Nat → Nat → Nat} {F : Ct} {d : Nd → Bool}
theorem Mem.kept (h : Mem w cb LB ob n J PB DB F d) (k : Kept w w2) : Mem w2 cb LB ob n J PB DB F d := by
  obtain ⟨c1, h1, r1⟩ := h.ctx
  obtain ⟨c2, h2, r2⟩ := h.opt
  obtain ⟨c3, h3, r3⟩ := h.files
  refine ⟨⟨c1, h1.kept k, r1⟩, ⟨c2, h2.kept k, r2⟩, ⟨c3, h3.kept k, r3⟩, fun i hi => ?_, fun i hi => ?_, fun i hi p hp => (h.deps i hi p hp).kept k, h.apart, h.fit⟩
  · obtain ⟨c5, h5, r⟩ := h.js i hi
    exact ⟨c5, h5.kept k, r⟩
  · obtain ⟨c5, h5, r⟩ := h.parts i hi
    exact ⟨c5, h5.kept k, r⟩
theorem Mem.ctxc (h : Mem w cb LB ob n J PB DB F d) : w.cell? ⟨cb, 10, none⟩ = some (.slice (some ⟨LB, 0, none⟩) n n) ∧ w.cell? ⟨cb, 0, none⟩ = some (.pointer (some ⟨ob, 0, none⟩)) ∧ w.cell? ⟨ob, 94, none⟩ = some (.bool true) := by
  obtain ⟨c1, h1, r1, r2⟩ := h.ctx
  obtain ⟨c2, h2, r3⟩ := h.opt
  exact ⟨by rw [h1.cell]; exact r1, by rw [h1.cell]; exact r2, by rw [h2.cell]; exact r3⟩
theorem Mem.file (h : Mem w cb LB ob n J PB DB F d) {i : Nat} (hi : i < n) : w.cell? ⟨LB, i * 24 + 2, none⟩ = some (.iface 121 (.pointer (some ⟨J i, 0, none⟩))) ∧ w.cell? ⟨LB, i * 24 + 23, none⟩ = some (.bool (d (.inl i))) ∧ w.frozen? ⟨LB, i * 24 + 23, none⟩ = false ∧
    w.cell? ⟨J i, 20, none⟩ = some (.slice (some ⟨PB i, 0, none⟩) (np F i) (np F i)) ∧ w.cell? ⟨J i, 63, none⟩ = some (.int .u32 0) := by
  obtain ⟨c, h1, _, h2⟩ := h.files
  obtain ⟨c5, h5, r1, r2⟩ := h.js i hi
  exact ⟨by rw [h1.cell]; exact (h2 i hi).1, by rw [h1.cell]; exact (h2 i hi).2, h1.free _, by rw [h5.cell]; exact r1, by rw [h5.cell]; exact r2⟩
theorem Mem.part (h : Mem w cb LB ob n J PB DB F d) {i p : Nat} (hi : i < n) (hp : p < np F i) : w.cell? ⟨PB i, p * 11 + 10, none⟩ = some (.bool (d (.inr (i, p)))) ∧ w.frozen? ⟨PB i, p * 11 + 10, none⟩ = false ∧ w.cell? ⟨PB i, p * 11 + 7, none⟩ = some (.slice (some ⟨DB i p, 0, none⟩) (tm.deps F i p).length (tm.deps F i p).length) := by
  obtain ⟨c, h1, _, _, h2⟩ := h.parts i hi
  exact ⟨by rw [h1.cell]; exact (h2 p hp).live, h1.free _, by rw [h1.cell]; exact (h2 p hp).deps⟩
/-- a part's cells -/
theorem Mem.whole (h : Mem w cb LB ob n J PB DB F d) {i p : Nat} (hi : i < n) (hp : p < np F i) : ∃ cs : List Value, cs.length = 11 ∧ w.rangeAt (PB i) (p * 11) cs ∧ cs.toArray.all (·.oneCell') = true ∧ cs[2]? = some (.slice none 0 0) ∧ cs[8]? = some (.bool (!keep F i p)) ∧ cs[9]? = some (.bool false) := by
  obtain ⟨c, h1, h2, h3, h4⟩ := h.parts i hi
  have hlt : p * 11 + 11 ≤ c.length := by rw [h2]; have := Nat.mul_le_mul_right 11 (show p + 1 ≤ np F i by omega); omega
  have q := h4 p hp
  refine ⟨(c.drop (p * 11)).take 11, by simp; omega, h1.range _ _, all_oneCell_toArray (fun v hv => h3 v (List.mem_of_mem_drop (List.mem_of_mem_take hv))), ?_, ?_, ?_⟩
  · rw [List.getElem?_take, if_pos (by omega), List.getElem?_drop]; exact q.recs
  · rw [List.getElem?_take, if_pos (by omega), List.getElem?_drop]; exact q.keep
  · rw [List.getElem?_take, if_pos (by omega), List.getElem?_drop]; exact q.force
/-- file i marked -/
theorem Mem.markF (h : Mem w cb LB ob n J PB DB F d) {i : Nat} (hi : i < n) : Mem (w.setCell ⟨LB, i * 24 + 23, none⟩ (.bool true)) cb LB ob n J PB DB F (upd d (.inl i) true) := by
  obtain ⟨c1, h1, r1⟩ := h.ctx
  obtain ⟨c2, h2, r2⟩ := h.opt
  obtain ⟨c3, h3, l3, r3⟩ := h.files
  have hlt : i * 24 + 24 ≤ n * 24 := by have := Nat.mul_le_mul_right 24 (show i + 1 ≤ n by omega); omega
  refine ⟨⟨c1, h1.far (h1.apart h3 (by decide)) _, r1⟩, ⟨c2, h2.far (h2.apart h3 (by decide)) _, r2⟩, ⟨_, h3.set _ _, by rw [List.length_set]; exact l3, fun j hj => ?_⟩, fun j hj => ?_, fun j hj => ?_, fun j hj p hp => (h.deps j hj p hp).far ((h.deps j hj p hp).apart h3 (by decide)) _, h.apart, h.fit⟩
  · obtain ⟨q1, q2⟩ := r3 j hj
    refine ⟨by rw [List.getElem?_set_ne (by omega)]; exact q1, ?_⟩
    by_cases e : j = i
    · rw [e, List.getElem?_set_self (by omega), upd_same]
    · rw [List.getElem?_set_ne (by omega), upd_ne _ _ (fun c => e (Sum.inl.inj c))]; exact q2
  · obtain ⟨c5, h5, r⟩ := h.js j hj
    exact ⟨c5, h5.far (h5.apart h3 (by decide)) _, r⟩
  · obtain ⟨c5, h5, l5, o5, r⟩ := h.parts j hj
    refine ⟨c5, h5.far (h5.apart h3 (by decide)) _, l5, o5, fun p hp => ?_⟩
    rw [upd_ne _ _ (by simp)]
    exact r p hp
theorem one_set {cs : List Value} {i : Nat} {u : Value} (h : ∀ v ∈ cs, v.oneCell' = true) (hu : u.oneCell' = true) : ∀ v ∈ cs.set i u, v.oneCell' = true := fun v hv => by
  rcases List.mem_or_eq_of_mem_set hv with hv | hv
  · exact h v hv
  · rw [hv]; exact hu
/-- part p of file i marked -/
theorem Mem.markP (h : Mem w cb LB ob n J PB DB F d) {i p : Nat} (hi : i < n) (hp : p < np F i) : Mem (w.setCell ⟨PB i, p * 11 + 10, none⟩ (.bool true)) cb LB ob n J PB DB F (upd d (.inr (i, p)) true) := by
  obtain ⟨c1, h1, r1⟩ := h.ctx
  obtain ⟨c2, h2, r2⟩ := h.opt
  obtain ⟨c3, h3, l3, r3⟩ := h.files
  obtain ⟨cp, hp1, lp, op, rp⟩ := h.parts i hi
  have hlt : p * 11 + 11 ≤ np F i * 11 := by have := Nat.mul_le_mul_right 11 (show p + 1 ≤ np F i by omega); omega
  refine ⟨⟨c1, h1.far (h1.apart hp1 (by decide)) _, r1⟩, ⟨c2, h2.far (h2.apart hp1 (by decide)) _, r2⟩, ⟨c3, h3.far (h3.apart hp1 (by decide)) _, l3, fun j hj => ?_⟩, fun j hj => ?_, fun j hj => ?_, fun j hj q hq => (h.deps j hj q hq).far ((h.deps j hj q hq).apart hp1 (by decide)) _, h.apart, h.fit⟩
  · rw [upd_ne _ _ (by simp)]
    exact r3 j hj
  · obtain ⟨c5, h5, r⟩ := h.js j hj
    exact ⟨c5, h5.far (h5.apart hp1 (by decide)) _, r⟩
  · by_cases e : j = i
    · subst e
      refine ⟨_, hp1.set _ _, by rw [List.length_set]; exact lp, one_set op rfl, fun q hq => ?_⟩
      obtain ⟨a1, a2, a3, a4, a5⟩ := rp q hq
      have hq2 : q * 11 + 11 ≤ np F j * 11 := by have := Nat.mul_le_mul_right 11 (show q + 1 ≤ np F j by omega); omega
      refine ⟨by rw [List.getElem?_set_ne (by omega)]; exact a1, by rw [List.getElem?_set_ne (by omega)]; exact a2, by rw [List.getElem?_set_ne (by omega)]; exact a3, by rw [List.getElem?_set_ne (by omega)]; exact a4, ?_⟩
      by_cases e2 : q = p
      · subst e2
        rw [List.getElem?_set_self (by omega), upd_same]
      · rw [List.getElem?_set_ne (by omega), upd_ne _ _ (fun c => e2 (congrArg Prod.snd (Sum.inr.inj c)))]; exact a5
    · obtain ⟨c5, h5, l5, o5, r⟩ := h.parts j hj
      refine ⟨c5, h5.far (fun c => e (h.apart j i hj hi c)) _, l5, o5, fun q hq => ?_⟩
      rw [upd_ne _ _ (fun c => e (congrArg Prod.fst (Sum.inr.inj c)))]
      exact r q hq
end
end Go.Proofs.Ytbdchplgefgkjab.tm
