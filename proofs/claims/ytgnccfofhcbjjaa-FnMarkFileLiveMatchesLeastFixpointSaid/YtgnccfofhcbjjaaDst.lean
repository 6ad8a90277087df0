/-
  Marking live nodes depth first with a distance that may fall again: what one call leaves, and that runs from two nodes answer alike in both orders.
  Conditions: none.
-/
import Derived.Test.YtgnccfofhcbjjaaDfs
namespace Go.Proofs.Ytgnccfofhcbjjaa.dst
open kit dfs

/-- a way through live nodes -/
inductive Path (live : Nat → Bool) (adj : Nat → List Nat) (s : Nat) : Nat → Nat → Prop
  | start : live s = true → Path live adj s 0 s
  | step {L u c : Nat} : Path live adj s L u → c ∈ adj u → live c = true → Path live adj s (L + 1) c
section
variable {live : Nat → Bool} {adj : Nat → List Nat}
theorem Path.first {s L u : Nat} (h : Path live adj s L u) : live s = true := by
  induction h with
  | start h => exact h
  | step _ _ _ ih => exact ih
theorem Path.cons {v c L u : Nat} (hv : live v = true) (hc : c ∈ adj v) (h : Path live adj c L u) : Path live adj v (L + 1) u := by
  induction h with
  | start h => exact .step (.start hv) hc h
  | step _ h1 h2 ih => exact .step ih h1 h2
end
/-- outside S the distances and the bits b are closed along the edges between live nodes -/
def Clo (live : Nat → Bool) (adj : Nat → List Nat) (S : Nat → Bool) (d : Nat → Nat) (e : Nat → Nat → Bool) (b : Nat) : Prop :=
  ∀ u, S u = false → live u = true → ∀ c ∈ adj u, live c = true → d c ≤ d u + 1 ∧ (e u b = true → e c b = true)
/-- what holds ahead of a call with distance k, S the nodes that are being visited -/
structure Pre (live : Nat → Bool) (adj : Nat → List Nat) (n : Nat) (S : Nat → Bool) (b k : Nat) (d : Nat → Nat) (e : Nat → Nat → Bool) : Prop where
  on : ∀ x, S x = true → e x b = true ∧ d x < k
  cnt : free (List.range n) S + k ≤ n
  clo : Clo live adj S d e b
/-- what a call at node v with distance k leaves -/
structure Pst (live : Nat → Bool) (adj : Nat → List Nat) (S : Nat → Bool) (b k v : Nat) (d : Nat → Nat) (e : Nat → Nat → Bool) (d2 : Nat → Nat) (e2 : Nat → Nat → Bool) : Prop where
  dle : ∀ u, d2 u ≤ d u
  keep : ∀ u, d u ≤ k → d2 u = d u
  bits : ∀ u bb, bb ≠ b → e2 u bb = e u bb
  grow : ∀ u, e u b = true → e2 u b = true
  clo : Clo live adj S d2 e2 b
  hit : live v = true → d2 v ≤ k ∧ e2 v b = true
  sd : ∀ u, d2 u = d u ∨ ∃ L, d2 u = k + L ∧ Path live adj v L u
  sb : ∀ u, e2 u b = true → e u b = true ∨ ∃ L, Path live adj v L u
/-- v is marked, the nodes ts are visited -/
structure Lps (live : Nat → Bool) (adj : Nat → List Nat) (S : Nat → Bool) (b k v : Nat) (ts : List Nat) (d : Nat → Nat) (e : Nat → Nat → Bool) (d2 : Nat → Nat) (e2 : Nat → Nat → Bool) : Prop where
  dle : ∀ u, d2 u ≤ d u
  keep : ∀ u, d u ≤ k → d2 u = d u
  dv : d2 v = min (d v) k
  bits : ∀ u bb, bb ≠ b → e2 u bb = e u bb
  grow : ∀ u, e u b = true → e2 u b = true
  ev : e2 v b = true
  clo : Clo live adj (upd S v true) d2 e2 b
  seen : ∀ c ∈ ts, live c = true → d2 c ≤ k + 1 ∧ e2 c b = true
  sd : ∀ u, d2 u = d u ∨ ∃ L, d2 u = k + L ∧ Path live adj v L u
  sb : ∀ u, e2 u b = true → e u b = true ∨ ∃ L, Path live adj v L u
/-- bit b of node v set -/
def bset (e : Nat → Nat → Bool) (v b : Nat) : Nat → Nat → Bool := upd e v (upd (e v) b true)
section
variable {live : Nat → Bool} {adj : Nat → List Nat} {n b k v : Nat} {S : Nat → Bool} {d d2 d3 : Nat → Nat} {e e2 e3 : Nat → Nat → Bool} {ts : List Nat}
theorem bset_same (e : Nat → Nat → Bool) (v b : Nat) : bset e v b v b = true := by unfold bset; rw [upd_same, upd_same]
theorem bset_node {u : Nat} (h : u ≠ v) (bb : Nat) : bset e v b u bb = e u bb := by unfold bset; rw [upd_ne _ _ h]
theorem bset_bit {u bb : Nat} (h : bb ≠ b) : bset e v b u bb = e u bb := by
  unfold bset
  by_cases e1 : u = v
  · subst e1; rw [upd_same, upd_ne _ _ h]
  · rw [upd_ne _ _ e1]
theorem bset_up {u bb : Nat} (h : e u bb = true) : bset e v b u bb = true := by
  by_cases e1 : u = v
  · by_cases e2 : bb = b
    · subst e1 e2; exact bset_same _ _ _
    · rw [bset_bit e2]; exact h
  · rw [bset_node e1]; exact h
theorem Pst.dead (hc : Clo live adj S d e b) (hl : live v = false) : Pst live adj S b k v d e d e :=
  ⟨fun _ => Nat.le_refl _, fun _ _ => rfl, fun _ _ _ => rfl, fun _ h => h, hc, fun h => (by rw [hl] at h; cases h), fun _ => .inl rfl, fun _ h => .inl h⟩
theorem Pst.done (hc : Clo live adj S d e b) (h1 : d v ≤ k) (h2 : e v b = true) : Pst live adj S b k v d e d e :=
  ⟨fun _ => Nat.le_refl _, fun _ _ => rfl, fun _ _ _ => rfl, fun _ h => h, hc, fun _ => ⟨h1, h2⟩, fun _ => .inl rfl, fun _ h => .inl h⟩
/-- a node that is walked on from is not being visited -/
theorem Pre.fresh (h : Pre live adj n S b k d e) (hg : k < d v ∨ e v b = false) : S v = false := by
  cases hs : S v
  · rfl
  · obtain ⟨h1, h2⟩ := h.on v hs
    rcases hg with hg | hg
    · omega
    · rw [h1] at hg; cases hg
theorem free_pos (hv : v < n) (hs : S v = false) : free (List.range n) (upd S v true) + 1 ≤ free (List.range n) S :=
  free_lt (d := S) (d2 := upd S v true) (fun _ hx => upd_up hx) (List.mem_range.2 hv) hs (upd_same _ _ _)
theorem Pre.small (h : Pre live adj n S b k d e) (hv : v < n) (hs : S v = false) : k + 1 ≤ n := by
  have := free_pos hv hs
  have := h.cnt
  omega
theorem Lps.start (h : Pre live adj n S b k d e) (hl : live v = true) (hs : S v = false) : Lps live adj S b k v [] d e (upd d v (min (d v) k)) (bset e v b) := by
  have hd : ∀ u, upd d v (min (d v) k) u ≤ d u := fun u => by
    by_cases e1 : u = v
    · subst e1; rw [upd_same]; exact Nat.min_le_left _ _
    · rw [upd_ne _ _ e1]; exact Nat.le_refl _
  refine ⟨hd, fun u hu => ?_, upd_same _ _ _, fun u bb hb => bset_bit hb, fun u hu => bset_up hu, bset_same _ _ _, fun u hu hlu c hc hlc => ?_, fun c hc => absurd hc (by simp), fun u => ?_, fun u hu => ?_⟩
  · by_cases e1 : u = v
    · subst e1; rw [upd_same]; omega
    · rw [upd_ne _ _ e1]
  · have e1 : u ≠ v := fun e1 => by rw [e1, upd_same] at hu; cases hu
    rw [upd_ne _ _ e1] at hu
    obtain ⟨q1, q2⟩ := h.clo u hu hlu c hc hlc
    rw [upd_ne d _ e1, bset_node e1]
    exact ⟨Nat.le_trans (hd c) q1, fun hx => bset_up (q2 hx)⟩
  · by_cases e1 : u = v
    · subst e1
      rw [upd_same]
      by_cases hk : d u ≤ k
      · exact .inl (by omega)
      · exact .inr ⟨0, by omega, .start hl⟩
    · exact .inl (upd_ne _ _ e1)
  · by_cases e1 : u = v
    · subst e1; exact .inr ⟨0, .start hl⟩
    · rw [bset_node e1] at hu; exact .inl hu
/-- what holds ahead of the call at a child -/
theorem Lps.pre (h : Lps live adj S b k v ts d e d2 e2) (p : Pre live adj n S b k d e) (hv : v < n) (hs : S v = false) : Pre live adj n (upd S v true) b (k + 1) d2 e2 := by
  refine ⟨fun x hx => ?_, by have := free_pos hv hs; have := p.cnt; omega, h.clo⟩
  by_cases e1 : x = v
  · subst e1
    refine ⟨h.ev, ?_⟩
    rw [h.dv]
    omega
  · rw [upd_ne _ _ e1] at hx
    obtain ⟨q1, q2⟩ := p.on x hx
    exact ⟨h.grow x q1, by rw [h.keep x (by omega)]; omega⟩
theorem Lps.step {c : Nat} (h : Lps live adj S b k v ts d e d2 e2) (hl : live v = true) (hc : c ∈ adj v) (g : Pst live adj (upd S v true) b (k + 1) c d2 e2 d3 e3) : Lps live adj S b k v (ts ++ [c]) d e d3 e3 := by
  refine ⟨fun u => Nat.le_trans (g.dle u) (h.dle u), fun u hu => ?_, ?_, fun u bb hb => (g.bits u bb hb).trans (h.bits u bb hb), fun u hu => g.grow u (h.grow u hu), g.grow v h.ev, g.clo, fun x hx hlx => ?_, fun u => ?_, fun u hu => ?_⟩
  · have q := h.keep u hu
    rw [g.keep u (by omega), q]
  · have q := h.dv
    rw [g.keep v (by omega), q]
  · rcases List.mem_append.1 hx with hx | hx
    · obtain ⟨q1, q2⟩ := h.seen x hx hlx
      exact ⟨Nat.le_trans (g.dle x) q1, g.grow x q2⟩
    · rw [List.mem_singleton.1 hx] at hlx ⊢
      exact g.hit hlx
  · rcases g.sd u with q | ⟨L, q, hp⟩
    · rcases h.sd u with r | ⟨L, r, hp⟩
      · exact .inl (q.trans r)
      · exact .inr ⟨L, q.trans r, hp⟩
    · exact .inr ⟨L + 1, by omega, Path.cons hl hc hp⟩
  · rcases g.sb u hu with q | ⟨L, hp⟩
    · exact h.sb u q
    · exact .inr ⟨L + 1, Path.cons hl hc hp⟩
/-- a visit that the code leaves out: the child is there already -/
theorem Lps.fin (h : Lps live adj S b k v ts d e d2 e2) (hts : ∀ c ∈ adj v, c ∈ ts) (p : Pre live adj n S b k d e) (hs : S v = false) (hl : live v = true) : Pst live adj S b k v d e d2 e2 := by
  refine ⟨h.dle, h.keep, h.bits, h.grow, fun u hu hlu c hc hlc => ?_, fun _ => ⟨by rw [h.dv]; omega, h.ev⟩, h.sd, h.sb⟩
  by_cases e1 : u = v
  · subst e1
    obtain ⟨q1, q2⟩ := h.seen c (hts c hc) hlc
    refine ⟨?_, fun _ => q2⟩
    rw [h.dv]
    by_cases hk : d u ≤ k
    · have r := (p.clo u hs hlu c hc hlc).1
      have := h.dle c
      omega
    · omega
  · exact h.clo u (by rw [upd_ne _ _ e1]; exact hu) hlu c hc hlc
end

/-- closed for every bit, no node being visited -/
def Inv (live : Nat → Bool) (adj : Nat → List Nat) (d : Nat → Nat) (e : Nat → Nat → Bool) : Prop := ∀ b, Clo live adj (fun _ => false) d e b
/-- d tells the least of the lengths P, M where there is none -/
def Best (M : Nat) (P : Nat → Nat → Prop) (d : Nat → Nat) : Prop := ∀ u, d u ≤ M ∧ (d u = M ∨ P (d u) u) ∧ ∀ L, P L u → d u ≤ L
def Bits (R : Nat → Nat → Prop) (e : Nat → Nat → Bool) : Prop := ∀ u b, e u b = true ↔ R u b
section
variable {live : Nat → Bool} {adj : Nat → List Nat} {n b v M : Nat} {d d2 : Nat → Nat} {e e2 : Nat → Nat → Bool} {P Q : Nat → Nat → Prop} {R : Nat → Nat → Prop}
theorem Inv.pre (h : Inv live adj d e) (b : Nat) : Pre live adj n (fun _ => false) b 0 d e := by
  refine ⟨fun x hx => (by cases hx), ?_, h b⟩
  have : free (List.range n) (fun _ => false) ≤ (List.range n).length := List.countP_le_length
  rw [List.length_range] at this
  omega
theorem Inv.zero (live : Nat → Bool) (adj : Nat → List Nat) (M : Nat) : Inv live adj (fun _ => M) (fun _ _ => false) := fun _ _ _ _ _ _ _ => ⟨Nat.le_succ _, fun h => (by cases h)⟩
theorem Best.zero (M : Nat) : Best M (fun _ _ => False) (fun _ => M) := fun _ => ⟨Nat.le_refl _, .inl rfl, fun _ h => h.elim⟩
theorem Bits.zero : Bits (fun _ _ => False) (fun _ _ => false) := fun _ _ => ⟨fun h => (by cases h), fun h => h.elim⟩
theorem Pst.inv (h : Pst live adj (fun _ => false) b 0 v d e d2 e2) (hi : Inv live adj d e) : Inv live adj d2 e2 := fun bb u hu hlu c hc hlc => by
  by_cases e1 : bb = b
  · rw [e1]; exact h.clo u hu hlu c hc hlc
  · refine ⟨(h.clo u hu hlu c hc hlc).1, fun hx => ?_⟩
    rw [h.bits u bb e1] at hx
    rw [h.bits c bb e1]
    exact (hi bb u hu hlu c hc hlc).2 hx
theorem Pst.path (h : Pst live adj (fun _ => false) b 0 v d e d2 e2) {L u : Nat} (hp : Path live adj v L u) : d2 u ≤ L ∧ e2 u b = true ∧ live u = true := by
  induction hp with
  | start hl => exact ⟨(h.hit hl).1, (h.hit hl).2, hl⟩
  | step _ hc hl ih =>
    obtain ⟨q1, q2⟩ := h.clo _ rfl ih.2.2 _ hc hl
    exact ⟨by have := ih.1; omega, q2 ih.2.1, hl⟩
theorem Pst.best (h : Pst live adj (fun _ => false) b 0 v d e d2 e2) (hb : Best M P d) : Best M (fun L u => P L u ∨ Path live adj v L u) d2 := fun u => by
  obtain ⟨q1, q2, q3⟩ := hb u
  refine ⟨Nat.le_trans (h.dle u) q1, ?_, fun L hL => ?_⟩
  · rcases h.sd u with r | ⟨L, r, hp⟩
    · rw [r]
      rcases q2 with q2 | q2
      · exact .inl q2
      · exact .inr (.inl q2)
    · rw [Nat.zero_add] at r
      rw [r]
      exact .inr (.inr hp)
  · rcases hL with hL | hL
    · exact Nat.le_trans (h.dle u) (q3 L hL)
    · exact (h.path hL).1
theorem Pst.bitsOf (h : Pst live adj (fun _ => false) b 0 v d e d2 e2) (hb : Bits R e) : Bits (fun u bb => R u bb ∨ bb = b ∧ ∃ L, Path live adj v L u) e2 := fun u bb => by
  by_cases e1 : bb = b
  · subst e1
    constructor
    · intro hx
      rcases h.sb u hx with q | q
      · exact .inl ((hb u bb).1 q)
      · exact .inr ⟨rfl, q⟩
    · rintro (q | ⟨_, L, q⟩)
      · exact h.grow u ((hb u bb).2 q)
      · exact (h.path q).2.1
  · rw [h.bits u bb e1]
    constructor
    · exact fun hx => .inl ((hb u bb).1 hx)
    · rintro (q | ⟨q, _⟩)
      · exact (hb u bb).2 q
      · exact absurd q e1
theorem Best.min {d1 d2 d3 : Nat → Nat} {P1 P2 P3 : Nat → Nat → Prop} (h1 : Best M P1 d1) (h2 : Best M P2 d2) (h3 : Best M P3 d3) (hP : ∀ L u, P3 L u ↔ P1 L u ∨ P2 L u) (u : Nat) : d3 u = if d2 u < d1 u then d2 u else d1 u := by
  obtain ⟨a1, b1, c1⟩ := h1 u
  obtain ⟨a2, b2, c2⟩ := h2 u
  obtain ⟨a3, b3, c3⟩ := h3 u
  have k1 : d3 u ≤ d1 u := by
    rcases b1 with b1 | b1
    · omega
    · exact c3 _ ((hP _ _).2 (.inl b1))
  have k2 : d3 u ≤ d2 u := by
    rcases b2 with b2 | b2
    · omega
    · exact c3 _ ((hP _ _).2 (.inr b2))
  have k3 : d1 u ≤ d3 u ∨ d2 u ≤ d3 u := by
    rcases b3 with b3 | b3
    · exact .inl (by omega)
    · rcases (hP _ _).1 b3 with q | q
      · exact .inl (c1 _ q)
      · exact .inr (c2 _ q)
  split <;> omega
end
/-- the state of the distances and bits behind one run, behind two runs -/
structure Four (live : Nat → Bool) (adj : Nat → List Nat) (M s b1 t b2 : Nat) (d1 d2 d3 d4 : Nat → Nat) (e1 e2 e3 e4 : Nat → Nat → Bool) : Prop where
  dist : ∀ u, (d3 u = if d2 u < d1 u then d2 u else d1 u) ∧ (d4 u = if d2 u < d1 u then d2 u else d1 u)
  union : ∀ u b, e3 u b = (e1 u b || e2 u b) ∧ e4 u b = (e1 u b || e2 u b)
  off : ∀ u b, b ≠ b1 → b ≠ b2 → e3 u b = false ∧ e4 u b = false
/-- one run from the empty state, two runs -/
def Run1 (live : Nat → Bool) (adj : Nat → List Nat) (M s b : Nat) (d : Nat → Nat) (e : Nat → Nat → Bool) : Prop := Pst live adj (fun _ => false) b 0 s (fun _ => M) (fun _ _ => false) d e
def Run2 (live : Nat → Bool) (adj : Nat → List Nat) (M s b t c : Nat) (d : Nat → Nat) (e : Nat → Nat → Bool) : Prop := ∃ d0 e0, Run1 live adj M s b d0 e0 ∧ Pst live adj (fun _ => false) c 0 t d0 e0 d e
theorem bool_or {a b c : Bool} (h : a = true ↔ b = true ∨ c = true) : a = (b || c) := by cases a <;> cases b <;> cases c <;> simp_all
theorem four {live : Nat → Bool} {adj : Nat → List Nat} {M s b1 t b2 : Nat} {d1 d2 d3 d4 : Nat → Nat} {e1 e2 e3 e4 : Nat → Nat → Bool} (h1 : Run1 live adj M s b1 d1 e1) (h2 : Run1 live adj M t b2 d2 e2) (h3 : Run2 live adj M s b1 t b2 d3 e3) (h4 : Run2 live adj M t b2 s b1 d4 e4) : Four live adj M s b1 t b2 d1 d2 d3 d4 e1 e2 e3 e4 := by
  obtain ⟨x3, y3, h3a, h3b⟩ := h3
  obtain ⟨x4, y4, h4a, h4b⟩ := h4
  have q1 := h1.best (Best.zero M)
  have q2 := h2.best (Best.zero M)
  have q3 := h3b.best (h3a.best (Best.zero M))
  have q4 := h4b.best (h4a.best (Best.zero M))
  have r1 := h1.bitsOf Bits.zero
  have r2 := h2.bitsOf Bits.zero
  have r3 := h3b.bitsOf (h3a.bitsOf Bits.zero)
  have r4 := h4b.bitsOf (h4a.bitsOf Bits.zero)
  refine ⟨fun u => ⟨Best.min q1 q2 q3 (fun L u => ?_) u, Best.min q1 q2 q4 (fun L u => ?_) u⟩, fun u b => ⟨bool_or ?_, bool_or ?_⟩, fun u b hb1 hb2 => ⟨?_, ?_⟩⟩
  · simp only [false_or]
  · simp only [false_or]; exact Or.comm
  · rw [r3, r1, r2]; simp only [false_or]
  · rw [r4, r1, r2]; simp only [false_or]; exact Or.comm
  · cases hx : e3 u b
    · rfl
    · rcases (r3 u b).1 hx with (q | ⟨q, _⟩) | ⟨q, _⟩
      · exact q.elim
      · exact absurd q hb1
      · exact absurd q hb2
  · cases hx : e4 u b
    · rfl
    · rcases (r4 u b).1 hx with (q | ⟨q, _⟩) | ⟨q, _⟩
      · exact q.elim
      · exact absurd q hb2
      · exact absurd q hb1
end Go.Proofs.Ytgnccfofhcbjjaa.dst
