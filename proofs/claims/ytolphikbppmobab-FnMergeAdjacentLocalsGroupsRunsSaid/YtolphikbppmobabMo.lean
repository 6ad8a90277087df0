/-
  The model of mergeAdjacentLocalStmts over this seat's program: runs of statements, and what the row of statements holds while it is merged.
  Conditions: none.
-/
import Derived.Test.YtolphikbppmobabMb
import Derived.Maps.AppendAt
import Derived.Deep.AppendLies
namespace Go.Proofs.Ytolphikbppmobab.mj
open Go.ChangeShapes Go.WideShapes Go.ChangeAt Go.RowKit
open kit

/-- a run begins at statement j -/
def brk (ks : List Nat) (xs : List Bool) : Nat → Bool
  | 0 => true
  | j + 1 => !(decide (ks.getD (j + 1) 0 < 8) && decide (ks.getD j 0 = ks.getD (j + 1) 0) && (xs.getD j false == xs.getD (j + 1) false))
/-- how many runs begin ahead of statement i -/
def cnt (ks : List Nat) (xs : List Bool) : Nat → Nat
  | 0 => 0
  | i + 1 => cnt ks xs i + (if brk ks xs i = true then 1 else 0)
/-- the statements s .. e - 1 lie in one run that begins at s -/
def Seg (ks : List Nat) (xs : List Bool) (s e : Nat) : Prop := s < e ∧ brk ks xs s = true ∧ ∀ j, s < j → j < e → brk ks xs j = false
def nums (ks ds : List Nat) (s e : Nat) : List Nat := (List.range (fst ks ds e - fst ks ds s)).map (fst ks ds s + ·)

section
variable {ks : List Nat} {xs : List Bool} {ds : List Nat}
theorem fst_mono {s e : Nat} (h : s ≤ e) : fst ks ds s ≤ fst ks ds e := by
  induction h with
  | refl => exact Nat.le_refl _
  | step _ ih => exact Nat.le_trans ih (by show fst ks ds _ ≤ fst ks ds _ + _; omega)
theorem fst_succ (i : Nat) (h : ks.getD i 0 < 8) : fst ks ds (i + 1) = fst ks ds i + ds.getD i 0 := by
  show fst ks ds i + _ = _
  rw [if_pos h]
theorem nums_length (s e : Nat) : (nums ks ds s e).length = fst ks ds e - fst ks ds s := by simp [nums]
theorem nums_get (s e j : Nat) (h : j < (nums ks ds s e).length) : (nums ks ds s e)[j] = fst ks ds s + j := by simp [nums]
theorem nums_one (i : Nat) (h : ks.getD i 0 < 8) : nums ks ds i (i + 1) = (List.range (ds.getD i 0)).map (fst ks ds i + ·) := by
  unfold nums
  rw [fst_succ i h, Nat.add_sub_cancel_left]
theorem nums_snoc {s i : Nat} (h : s ≤ i) : nums ks ds s (i + 1) = nums ks ds s i ++ nums ks ds i (i + 1) := by
  have h1 := fst_mono (ks := ks) (ds := ds) h
  have h2 := fst_mono (ks := ks) (ds := ds) (Nat.le_succ i)
  apply List.ext_getElem
  · simp only [List.length_append, nums_length, Nat.succ_eq_add_one] at *
    omega
  · intro j hj hj2
    rw [nums_get]
    rw [List.getElem_append]
    split
    · rw [nums_get]
    · rename_i hlt
      rw [nums_get]
      rw [nums_length] at hlt ⊢
      omega
theorem Seg.cnt {s e : Nat} (h : Seg ks xs s e) : cnt ks xs e = cnt ks xs s + 1 := by
  obtain ⟨h1, h2, h3⟩ := h
  induction e with
  | zero => omega
  | succ e ih =>
    show mj.cnt ks xs e + _ = _
    by_cases he : s = e
    · subst he
      rw [if_pos h2]
    · rw [if_neg (by rw [h3 e (by omega) (by omega)]; decide), ih (by omega) (fun j a b => h3 j a (by omega))]
theorem cnt_mono {s e : Nat} (h : s ≤ e) : mj.cnt ks xs s ≤ mj.cnt ks xs e := by
  induction h with
  | refl => exact Nat.le_refl _
  | step _ ih => exact Nat.le_trans ih (by show mj.cnt ks xs _ ≤ mj.cnt ks xs _ + _; omega)
theorem cnt_le (i : Nat) : mj.cnt ks xs i ≤ i := by
  induction i with
  | zero => exact Nat.le_refl _
  | succ i ih => show mj.cnt ks xs i + _ ≤ _; split <;> omega
theorem Seg.before {s e s2 e2 : Nat} (h : Seg ks xs s e) (_h2 : Seg ks xs s2 e2) (he : e ≤ s2) : mj.cnt ks xs s < mj.cnt ks xs s2 := by
  have := h.cnt
  have := cnt_mono (ks := ks) (xs := xs) he
  omega
theorem Seg.one {s : Nat} (h : brk ks xs s = true) : Seg ks xs s (s + 1) := ⟨Nat.lt_succ_self _, h, fun j a b => by omega⟩
theorem Seg.snoc {s e : Nat} (h : Seg ks xs s e) (hb : brk ks xs e = false) : Seg ks xs s (e + 1) :=
  ⟨by have := h.1; omega, h.2.1, fun j a b => by
    by_cases hj : j = e
    · rw [hj]; exact hb
    · exact h.2.2 j a (by omega)⟩
/-- all statements of a run have one kind and one flag -/
theorem Seg.same {s e : Nat} (h : Seg ks xs s e) : ∀ j, s ≤ j → j < e → ks.getD j 0 = ks.getD s 0 ∧ xs.getD j false = xs.getD s false := by
  intro j
  induction j with
  | zero => intro a _; obtain rfl : s = 0 := by omega
            exact ⟨rfl, rfl⟩
  | succ j ih =>
    intro a b
    by_cases hj : s = j + 1
    · rw [hj]; exact ⟨rfl, rfl⟩
    · have h1 := h.2.2 (j + 1) (by omega) b
      unfold brk at h1
      simp only [Bool.not_eq_false', Bool.and_eq_true, decide_eq_true_eq, beq_iff_eq] at h1
      have h2 := ih (by omega) (by omega)
      exact ⟨h1.1.2.symm.trans h2.1, h1.2.symm.trans h2.2⟩
/-- whether statement i is joined to the run s .. i - 1: by the run's own kind and flag -/
theorem brk_iff {s i : Nat} (h : Seg ks xs s i) : brk ks xs i = false ↔ ks.getD i 0 < 8 ∧ ks.getD s 0 = ks.getD i 0 ∧ xs.getD s false = xs.getD i false := by
  obtain ⟨j, rfl⟩ : ∃ j, i = j + 1 := ⟨i - 1, by have := h.1; omega⟩
  have hs := h.same j (by have := h.1; omega) (by omega)
  unfold brk
  simp only [Bool.not_eq_false', Bool.and_eq_true, decide_eq_true_eq, beq_iff_eq]
  rw [hs.1, hs.2]
  constructor
  · rintro ⟨⟨a, b⟩, c⟩; exact ⟨a, b, c⟩
  · rintro ⟨a, b, c⟩; exact ⟨⟨a, b⟩, c⟩
end

/-- a row of declarations that bind the numbers ds, in blocks below B -/
def DlB (w : World) (B : Nat) (cs : List Value) (ds : List Nat) : Prop :=
  (cs.length = ds.length * 4 ∧ ∀ u ∈ cs, u.oneCell' = true) ∧ ∀ j (h : j < ds.length), ∃ r, r < B ∧ cs[j * 4]? = some (PB r) ∧ Blk w r 65 [.int .u32 ((0 : Nat) : Int), .int .u32 ((ds[j] : Nat) : Int)]
/-- blocks below L, but R, are as they were -/
def Ag (L R : Nat) (w w2 : World) : Prop := ∀ b, b < L → b ≠ R → w2.heap[b]? = w.heap[b]?
theorem Ag.mono {L L2 R : Nat} {w w2 : World} (h : Ag L R w w2) (hl : L2 ≤ L) : Ag L2 R w w2 := fun b hb hr => h b (by omega) hr
theorem Ag.of_kept {R : Nat} {w w2 : World} (h : Kept w w2) : Ag w.heap.size R w w2 := fun b hb _ => h.block b hb
theorem Ag.trans {L R : Nat} {a b c : World} (h : Ag L R a b) (g : Ag L R b c) : Ag L R a c := fun k hk hr => (g k hk hr).trans (h k hk hr)
theorem Ag.set {L R : Nat} {w w2 : World} (h : Ag L R w w2) (o : Nat) (u : Value) : Ag L R w (w2.setCell ⟨R, o, none⟩ u) := fun b hb hr => (Below.heap_setCell w2 ⟨R, o, none⟩ u b hr).trans (h b hb hr)
theorem Ag.setHigh {L R : Nat} {w w2 : World} (h : Ag L R w w2) {g : Nat} (hg : L ≤ g) (o : Nat) (u : Value) : Ag L R w (w2.setCell ⟨g, o, none⟩ u) := fun b hb hr => (Below.heap_setCell w2 ⟨g, o, none⟩ u b (by show b ≠ g; omega)).trans (h b hb hr)
theorem Ag.grown {L R : Nat} {w w2 w3 : World} (h : Ag L R w w2) {row : Option Nat} (hg : w2.grownBy w3 row) (hr : ∀ k, row = some k → L ≤ k) (hs : L ≤ w2.heap.size) : Ag L R w w3 := fun b hb hne => (hg.block b (by omega) (fun e => by have := hr b e.symm; omega)).trans (h b hb hne)

section
variable {w w2 : World} {L R : Nat} {rc : List Value}
theorem blk_ag {g t : Nat} {cs : List Value} (h : Blk w g t cs) (hR : Blk w R 36 rc) (ht : t ≠ 36) (hg : g < L) (ha : Ag L R w w2) : Blk w2 g t cs := (ha g hg (h.apart hR ht)).trans h
theorem DlB.ag {B : Nat} {cs : List Value} {ds : List Nat} (h : DlB w B cs ds) (hR : Blk w R 36 rc) (hB : B ≤ L) (ha : Ag L R w w2) : DlB w2 B cs ds :=
  ⟨h.1, fun j hj => by
    obtain ⟨r, h1, h2, h3⟩ := h.2 j hj
    exact ⟨r, h1, h2, blk_ag h3 hR (by decide) (by omega) ha⟩⟩
theorem DlB.mono {B B2 : Nat} {cs : List Value} {ds : List Nat} (h : DlB w B cs ds) (hB : B ≤ B2) : DlB w B2 cs ds :=
  ⟨h.1, fun j hj => by
    obtain ⟨r, h1, h2, h3⟩ := h.2 j hj
    exact ⟨r, by omega, h2, h3⟩⟩
theorem DlB.append {B : Nat} {cs cs2 : List Value} {ds ds2 : List Nat} (h : DlB w B cs ds) (h2 : DlB w B cs2 ds2) : DlB w B (cs ++ cs2) (ds ++ ds2) := by
  refine ⟨⟨by rw [List.length_append, List.length_append, h.1.1, h2.1.1]; omega, fun u hu => (List.mem_append.1 hu).elim (h.1.2 u) (h2.1.2 u)⟩, fun j hj => ?_⟩
  have hl := h.1.1
  by_cases hlt : j < ds.length
  · obtain ⟨r, a1, a2, a3⟩ := h.2 j hlt
    refine ⟨r, a1, ?_, ?_⟩
    · rw [List.getElem?_append_left (by omega)]; exact a2
    · rw [List.getElem_append_left hlt]; exact a3
  · have hj2 : j - ds.length < ds2.length := by rw [List.length_append] at hj; omega
    obtain ⟨r, a1, a2, a3⟩ := h2.2 _ hj2
    refine ⟨r, a1, ?_, ?_⟩
    · rw [List.getElem?_append_right (by omega), hl, show j * 4 - ds.length * 4 = (j - ds.length) * 4 by omega]; exact a2
    · rw [List.getElem_append_right (by omega)]; exact a3
theorem own_ag {base n : Nat} {v : Value} {ys : List Value} (h : w.ownsRow base 61 4 v n ys) (hR : Blk w R 36 rc) (hv : ∀ b, v.ownBlock = some b → b < L) (ha : Ag L R w w2) : w2.ownsRow base 61 4 v n ys := by
  refine ⟨h.1, ?_⟩
  rcases h.2 with h2 | ⟨g, cap, cur, e1, e2, hh, r⟩
  · exact Or.inl h2
  · refine Or.inr ⟨g, cap, cur, e1, e2, ?_, r⟩
    have hg : g < L := hv g (by rw [e1]; rfl)
    have hne : g ≠ R := by
      rintro rfl
      rw [Blk] at hR
      rw [hR] at hh
      have := Option.some.inj hh
      injection this with _ e2
      exact absurd e2 (by decide)
    exact (ha g hg hne).trans hh
end

/-- v is an original statement, its blocks below B -/
def IsS (w : World) (B : Nat) (v : Value) (k : Nat) (x : Bool) (ns : List Nat) : Prop :=
  (8 ≤ k → ∃ g, g < B ∧ v = PX g ∧ Blk w g 69 [.nilIface, .int .i32 0, .bool false]) ∧
  (k < 8 → ∃ g b cs, g < B ∧ b < B ∧ v = PL g ∧ Blk w g 49 [.slice (some ⟨b, 0, none⟩) ns.length ns.length, .int .u8 (k : Int), .bool x, .bool false] ∧ Blk w b 61 cs ∧ DlB w B cs ns)
/-- the struct of a local statement in block g, its row from lo on -/
def LocB (w : World) (B lo L g k : Nat) (x : Bool) (ns : List Nat) : Prop :=
  ∃ a c cs, Blk w g 49 [.slice a ns.length c, .int .u8 (k : Int), .bool x, .bool false] ∧ w.ownsRow lo 61 4 (.slice a ns.length c) ns.length cs ∧ (∀ b, (Value.slice a ns.length c).ownBlock = some b → b < L) ∧ DlB w B cs ns
/-- v is a statement of the answer, its blocks below L -/
def OutSt (w : World) (B L : Nat) (v : Value) (k : Nat) (x : Bool) (ns : List Nat) : Prop :=
  (8 ≤ k → ∃ g, g < L ∧ v = PX g ∧ Blk w g 69 [.nilIface, .int .i32 0, .bool false]) ∧
  (k < 8 → ∃ g, g < L ∧ v = PL g ∧ LocB w B 0 L g k x ns)

section
variable {w w2 : World} {B L R k : Nat} {rc : List Value} {v : Value} {x : Bool} {ns : List Nat}
theorem IsS.ag (h : IsS w B v k x ns) (hR : Blk w R 36 rc) (hB : B ≤ L) (ha : Ag L R w w2) : IsS w2 B v k x ns := by
  refine ⟨fun h8 => ?_, fun h8 => ?_⟩
  · obtain ⟨g, h1, h2, h3⟩ := h.1 h8
    exact ⟨g, h1, h2, blk_ag h3 hR (by decide) (by omega) ha⟩
  · obtain ⟨g, b, cs, h1, h2, h3, h4, h5, h6⟩ := h.2 h8
    exact ⟨g, b, cs, h1, h2, h3, blk_ag h4 hR (by decide) (by omega) ha, blk_ag h5 hR (by decide) (by omega) ha, h6.ag hR hB ha⟩
theorem own_of_blk {b n : Nat} {cs : List Value} (h : Blk w b 61 cs) (hl : cs.length = n * 4) (hn : n ≤ maxLen) : w.ownsRow 0 61 4 (.slice (some ⟨b, 0, none⟩) n n) n cs :=
  ⟨hl, Or.inr ⟨b, n, cs.toArray, rfl, Nat.zero_le _, h, Nat.le_refl _, hn, by simpa using hl, by simp [← hl]⟩⟩
theorem IsS.out (h : IsS w B v k x ns) (hB : B ≤ L) (hn : ns.length ≤ 65536) : OutSt w B L v k x ns := by
  refine ⟨fun h8 => ?_, fun h8 => ?_⟩
  · obtain ⟨g, h1, h2, h3⟩ := h.1 h8
    exact ⟨g, by omega, h2, h3⟩
  · obtain ⟨g, b, cs, h1, h2, h3, h4, h5, h6⟩ := h.2 h8
    refine ⟨g, by omega, h3, _, _, cs, h4, own_of_blk h5 h6.1.1 (by unfold maxLen; omega), fun b2 hb => ?_, h6⟩
    simp only [Value.ownBlock, Option.some.injEq] at hb
    omega
theorem LocB.ag {lo g : Nat} (h : LocB w B lo L g k x ns) (hR : Blk w R 36 rc) (hB : B ≤ L) (hg : g < L) (ha : Ag L R w w2) : LocB w2 B lo L g k x ns := by
  obtain ⟨a, c, cs, h1, h2, h3, h4⟩ := h
  exact ⟨a, c, cs, blk_ag h1 hR (by decide) hg ha, own_ag h2 hR h3 ha, h3, h4.ag hR hB ha⟩
theorem OutSt.ag (h : OutSt w B L v k x ns) (hR : Blk w R 36 rc) (hB : B ≤ L) (ha : Ag L R w w2) : OutSt w2 B L v k x ns := by
  refine ⟨fun h8 => ?_, fun h8 => ?_⟩
  · obtain ⟨g, h1, h2, h3⟩ := h.1 h8
    exact ⟨g, h1, h2, blk_ag h3 hR (by decide) (by omega) ha⟩
  · obtain ⟨g, h1, h2, h3⟩ := h.2 h8
    exact ⟨g, h1, h2, h3.ag hR hB h1 ha⟩
theorem LocB.mono {lo g L2 : Nat} (h : LocB w B lo L g k x ns) (hL : L ≤ L2) : LocB w B 0 L2 g k x ns := by
  obtain ⟨a, c, cs, h1, h2, h3, h4⟩ := h
  exact ⟨a, c, cs, h1, own_mono h2 (Nat.zero_le _), fun b hb => Nat.lt_of_lt_of_le (h3 b hb) hL, h4⟩
theorem OutSt.mono {L2 : Nat} (h : OutSt w B L v k x ns) (hL : L ≤ L2) : OutSt w B L2 v k x ns := by
  refine ⟨fun h8 => ?_, fun h8 => ?_⟩
  · obtain ⟨g, h1, h2, h3⟩ := h.1 h8
    exact ⟨g, by omega, h2, h3⟩
  · obtain ⟨g, h1, h2, h3⟩ := h.2 h8
    exact ⟨g, by omega, h2, h3.mono hL⟩
theorem IsSt.isS (h : IsSt 0 w v k x ns) : IsS w w.heap.size v k x ns := by
  refine ⟨fun h8 => ?_, fun h8 => ?_⟩
  · obtain ⟨g, _, h2, h3⟩ := h.1 h8
    exact ⟨g, h3.lt, h2, h3⟩
  · obtain ⟨g, b, cs, _, _, h3, h4, h5, h6, h7⟩ := h.2 h8
    exact ⟨g, b, cs, h4.lt, h5.lt, h3, h4, h5, h6, fun j hj => by
      obtain ⟨r, r1, r2⟩ := h7 j hj
      exact ⟨r, r2.lt, r1, r2⟩⟩
end

/-- the last run's statement: an original, or a clone of the call's own from L on -/
def Last (w : World) (B L : Nat) (did : Bool) (v : Value) (k : Nat) (x : Bool) (ns : List Nat) (one : Prop) : Prop :=
  (did = false → one ∧ IsS w B v k x ns) ∧ (did = true → k < 8 ∧ ∃ g, v = PL g ∧ L ≤ g ∧ LocB w B L w.heap.size g k x ns)

/-- the first i statements are merged: the run s .. i - 1 is the last -/
def Mi (ks : List Nat) (xs : List Bool) (ds : List Nat) (B R n i s L : Nat) (did : Bool) (rc : List Value) (W : World) : Prop :=
  Blk W R 36 rc ∧ rc.length = n * 2 ∧ B ≤ L ∧ L ≤ W.heap.size ∧ Seg ks xs s i ∧
  (∀ j, i ≤ j → j < n → ∃ v, rc[j * 2]? = some v ∧ rc[j * 2 + 1]? = some (.int .i32 (j : Int)) ∧ IsS W B v (ks.getD j 0) (xs.getD j false) (nums ks ds j (j + 1))) ∧
  (∀ s' e', Seg ks xs s' e' → brk ks xs e' = true → e' ≤ s → ∃ v, rc[cnt ks xs s' * 2]? = some v ∧ rc[cnt ks xs s' * 2 + 1]? = some (.int .i32 (s' : Int)) ∧ OutSt W B L v (ks.getD s' 0) (xs.getD s' false) (nums ks ds s' e')) ∧
  ∃ v, rc[cnt ks xs s * 2]? = some v ∧ rc[cnt ks xs s * 2 + 1]? = some (.int .i32 (s : Int)) ∧ Last W B L did v (ks.getD s 0) (xs.getD s false) (nums ks ds s i) (i = s + 1)

section
variable {ks : List Nat} {xs : List Bool} {ds : List Nat} {B R n i s L : Nat} {did : Bool} {rc : List Value} {W W2 : World}
theorem nums_le (hf : fst ks ds n ≤ 65536) {s e : Nat} (h : e ≤ n) : (nums ks ds s e).length ≤ 65536 := by
  rw [nums_length]
  have := fst_mono (ks := ks) (ds := ds) h
  omega
theorem Last.out {v : Value} {k : Nat} {x : Bool} {ns : List Nat} {one : Prop} (h : Last W B L did v k x ns one) (hB : B ≤ W.heap.size) (hn : ns.length ≤ 65536) : OutSt W B W.heap.size v k x ns := by
  cases did
  · exact (h.1 rfl).2.out hB hn
  · obtain ⟨h8, g, h1, h2, h3⟩ := h.2 rfl
    refine ⟨fun h => by omega, fun _ => ⟨g, ?_, h1, h3.mono (Nat.le_refl _)⟩⟩
    obtain ⟨a, c, cs, q1, _⟩ := h3
    exact q1.lt
/-- a new run begins: statement i goes behind the last -/
theorem Mi.apart (h : Mi ks xs ds B R n i s L did rc W) (hin : i < n) (hf : fst ks ds n ≤ 65536) (hb : brk ks xs i = true) {v : Value} (hv : rc[i * 2]? = some v) (hk : Ag W.heap.size R W W2) (hs : W.heap.size ≤ W2.heap.size) (hR2 : Blk W2 R 36 rc) :
    Mi ks xs ds B R n (i + 1) i W.heap.size false ((rc.set ((cnt ks xs s + 1) * 2) v).set ((cnt ks xs s + 1) * 2 + 1) (.int .i32 (i : Int))) ((W2.setCell ⟨R, (cnt ks xs s + 1) * 2, none⟩ v).setCell ⟨R, (cnt ks xs s + 1) * 2 + 1, none⟩ (.int .i32 (i : Int))) := by
  obtain ⟨h1, h2, h3, h4, h5, h6, h7, v0, h8, h9, h10⟩ := h
  have hc := h5.cnt
  have hci := cnt_le (ks := ks) (xs := xs) i
  have hBW : B ≤ W.heap.size := Nat.le_trans h3 h4
  have hlast := h10.out hBW (nums_le hf (s := s) (e := i) (by omega))
  obtain ⟨v1, g1, g2, g3⟩ := h6 i (Nat.le_refl _) hin
  rw [hv] at g1
  obtain rfl := Option.some.inj g1
  have hse := h5.1
  have ha := (hk.set ((cnt ks xs s + 1) * 2) v).set ((cnt ks xs s + 1) * 2 + 1) (.int .i32 (i : Int))
  have hb3 := (hR2.set ((cnt ks xs s + 1) * 2) v).set ((cnt ks xs s + 1) * 2 + 1) (.int .i32 (i : Int))
  refine ⟨hb3, by simp [h2], hBW, by simpa using hs, Seg.one hb, fun j hj1 hj2 => ?_, fun s' e' hs' hb' hle => ?_, v, ?_, ?_, fun _ => ⟨rfl, g3.ag h1 hBW ha⟩, fun h => (by cases h)⟩
  · obtain ⟨u, u1, u2, u3⟩ := h6 j (by omega) hj2
    refine ⟨u, ?_, ?_, u3.ag h1 hBW ha⟩
    · rw [List.getElem?_set_ne (by omega), List.getElem?_set_ne (by omega)]; exact u1
    · rw [List.getElem?_set_ne (by omega), List.getElem?_set_ne (by omega)]; exact u2
  · by_cases he : e' ≤ s
    · obtain ⟨u, u1, u2, u3⟩ := h7 s' e' hs' hb' he
      have hlt := hs'.before h5 he
      refine ⟨u, ?_, ?_, (u3.mono h4).ag h1 hBW ha⟩
      · rw [List.getElem?_set_ne (by omega), List.getElem?_set_ne (by omega)]; exact u1
      · rw [List.getElem?_set_ne (by omega), List.getElem?_set_ne (by omega)]; exact u2
    · obtain rfl : s' = s := by
        apply Classical.byContradiction
        intro hne
        rcases Nat.lt_or_ge s' s with hlt | hge
        · have := hs'.2.2 s hlt (by omega)
          rw [h5.2.1] at this
          cases this
        · have := h5.2.2 s' (by omega) (by have := hs'.1; omega)
          rw [hs'.2.1] at this
          cases this
      obtain rfl : e' = i := by
        apply Classical.byContradiction
        intro hne
        have := h5.2.2 e' (by omega) (by omega)
        rw [hb'] at this
        cases this
      refine ⟨v0, ?_, ?_, hlast.ag h1 hBW ha⟩
      · rw [List.getElem?_set_ne (by omega), List.getElem?_set_ne (by omega)]; exact h8
      · rw [List.getElem?_set_ne (by omega), List.getElem?_set_ne (by omega)]; exact h9
  · rw [hc, List.getElem?_set_ne (by omega), List.getElem?_set_self (by omega)]
  · rw [hc, List.getElem?_set_self (by rw [List.length_set]; omega)]
/-- statement i joins the last run -/
theorem Mi.join {L2 g : Nat} {rc2 : List Value} (h : Mi ks xs ds B R n i s L did rc W) (hin : i < n) (hb : brk ks xs i = false) (hL : L ≤ L2) (hL2 : L2 ≤ W2.heap.size) (ha : Ag L2 R W W2) (hR2 : Blk W2 R 36 rc2) (hl2 : rc2.length = rc.length)
    (hrc : ∀ p, p ≠ cnt ks xs s * 2 → rc2[p]? = rc[p]?) (hg : rc2[cnt ks xs s * 2]? = some (PL g)) (hgL : L2 ≤ g) (hloc : LocB W2 B L2 W2.heap.size g (ks.getD s 0) (xs.getD s false) (nums ks ds s (i + 1))) :
    Mi ks xs ds B R n (i + 1) s L2 true rc2 W2 := by
  obtain ⟨h1, h2, h3, h4, h5, h6, h7, v0, h8, h9, h10⟩ := h
  have hc := h5.cnt
  have hci := cnt_le (ks := ks) (xs := xs) i
  have h8k := (brk_iff h5).1 hb
  refine ⟨hR2, by rw [hl2, h2], by omega, hL2, h5.snoc hb, fun j hj1 hj2 => ?_, fun s' e' hs' hb' hle => ?_, PL g, hg, by rw [hrc _ (by omega)]; exact h9, fun h => (by cases h), fun _ => ⟨by rw [h8k.2.1]; exact h8k.1, g, rfl, hgL, hloc⟩⟩
  · obtain ⟨u, u1, u2, u3⟩ := h6 j (by omega) hj2
    have hs := h5.1
    exact ⟨u, by rw [hrc _ (by omega)]; exact u1, by rw [hrc _ (by omega)]; exact u2, u3.ag h1 (by omega) ha⟩
  · obtain ⟨u, u1, u2, u3⟩ := h7 s' e' hs' hb' hle
    have hlt := hs'.before h5 hle
    exact ⟨u, by rw [hrc _ (by omega)]; exact u1, by rw [hrc _ (by omega)]; exact u2, (u3.mono hL).ag h1 (by omega) ha⟩
theorem LocB.of {w : World} {B lo g k : Nat} {x : Bool} {n : Nat} {a : Option Addr} {c : Nat} {cs : List Value} {ns : List Nat} (hn : n = ns.length) (h1 : Blk w g 49 [.slice a n c, .int .u8 (k : Int), .bool x, .bool false]) (h2 : w.ownsRow lo 61 4 (.slice a n c) n cs) (h3 : DlB w B cs ns) : LocB w B lo w.heap.size g k x ns := by
  subst hn
  exact ⟨a, c, cs, h1, h2, fun b hb => (own_lt h2 b (own_of_map hb)).2, h3⟩
/-- statement i is appended to a clone that the call owns -/
theorem Mi.more {g' n1 c1 c2 m : Nat} {a1 a2 : Option Addr} {cs1 cs2 : List Value} {Wd W1 : World} (h : Mi ks xs ds B R n i s L did rc W) (hin : i < n) (hb : brk ks xs i = false)
    (hv : rc[cnt ks xs s * 2]? = some (PL g')) (hLg : L ≤ g') (q1 : Blk W g' 49 [.slice a1 n1 c1, .int .u8 (ks.getD s 0 : Int), .bool (xs.getD s false), .bool false]) (q2 : W.ownsRow L 61 4 (.slice a1 n1 c1) n1 cs1) (q4 : DlB W B cs1 (nums ks ds s i)) (hn1 : n1 = (nums ks ds s i).length)
    (r4 : DlB W B cs2 (nums ks ds i (i + 1))) (hm : m = (nums ks ds i (i + 1)).length) (hk : Kept W Wd) (hown : W1.ownsRow L 61 4 (.slice a2 (n1 + m) c2) (n1 + m) (cs1 ++ cs2)) (hgrow : Wd.grownBy W1 (Value.slice a1 n1 c1).ownBlock) :
    Mi ks xs ds B R n (i + 1) s L true rc (W1.setCell ⟨g', 0, none⟩ (.slice a2 (n1 + m) c2)) := by
  have hR := h.1
  have hBL := h.2.2.1
  have hLW := h.2.2.2.1
  have hsi := h.2.2.2.2.1.1
  have hsz := hk.size
  have hb1 : Blk W1 g' 49 [.slice a1 n1 c1, .int .u8 (ks.getD s 0 : Int), .bool (xs.getD s false), .bool false] := (q1.kept hk).grown hgrow (fun e => q1.notOwned q2 (by decide) e.symm)
  have hR1 : Blk W1 R 36 rc := (hR.kept hk).grown hgrow (fun e => hR.notOwned q2 (by decide) e.symm)
  have hag : Ag L R W (W1.setCell ⟨g', 0, none⟩ (.slice a2 (n1 + m) c2)) := (((Ag.of_kept hk).mono hLW).grown hgrow (fun k hk2 => (own_lt q2 k (own_of_map hk2)).1) (by omega)).setHigh hLg 0 _
  have hs1 : W1.heap.size = (W1.setCell ⟨g', 0, none⟩ (.slice a2 (n1 + m) c2)).heap.size := by simp
  have hloc := LocB.of (w := W1.setCell ⟨g', 0, none⟩ (.slice a2 (n1 + m) c2)) (B := B) (ns := nums ks ds s i ++ nums ks ds i (i + 1)) (n := n1 + m) (by rw [List.length_append, hn1, hm]) (hb1.set 0 (.slice a2 (n1 + m) c2)) (own_far hown (hb1.notOwned hown (by decide))) ((q4.ag hR hBL hag).append (r4.ag hR hBL hag))
  rw [← nums_snoc (by omega)] at hloc
  exact h.join hin hb (Nat.le_refl _) (by rw [← hs1]; exact Nat.le_trans hLW (Nat.le_trans hsz hgrow.size)) hag (hR1.far (hR1.apart hb1 (by decide)) _) rfl (fun _ _ => rfl) hv hLg hloc
/-- statement i is joined with the last run's original in a new clone -/
theorem Mi.clone {G n1 c2 m : Nat} {a2 : Option Addr} {cs1 cs2 : List Value} {W1 : World} (h : Mi ks xs ds B R n i s L did rc W) (hin : i < n) (hb : brk ks xs i = false) (q4 : DlB W B cs1 (nums ks ds s i)) (hn1 : n1 = (nums ks ds s i).length)
    (r4 : DlB W B cs2 (nums ks ds i (i + 1))) (hm : m = (nums ks ds i (i + 1)).length) (hk : Kept W W1) (hG : W.heap.size ≤ G) (q1 : Blk W1 G 49 [.slice a2 (n1 + m) c2, .int .u8 (ks.getD s 0 : Int), .bool (xs.getD s false), .bool false]) (hown : W1.ownsRow W.heap.size 61 4 (.slice a2 (n1 + m) c2) (n1 + m) (cs1 ++ cs2)) :
    Mi ks xs ds B R n (i + 1) s W.heap.size true (rc.set (cnt ks xs s * 2) (PL G)) (W1.setCell ⟨R, cnt ks xs s * 2, none⟩ (PL G)) := by
  have hR := h.1
  have hrl := h.2.1
  have hBL := h.2.2.1
  have hLW := h.2.2.2.1
  have hsi := h.2.2.2.2.1.1
  have hsz := hk.size
  have hci := cnt_le (ks := ks) (xs := xs) s
  have hR1 : Blk W1 R 36 rc := hR.kept hk
  have hag : Ag W.heap.size R W (W1.setCell ⟨R, cnt ks xs s * 2, none⟩ (PL G)) := (Ag.of_kept hk).set _ _
  have hs1 : W1.heap.size = (W1.setCell ⟨R, cnt ks xs s * 2, none⟩ (PL G)).heap.size := by simp
  have hloc := LocB.of (w := W1.setCell ⟨R, cnt ks xs s * 2, none⟩ (PL G)) (B := B) (ns := nums ks ds s i ++ nums ks ds i (i + 1)) (n := n1 + m) (by rw [List.length_append, hn1, hm]) (q1.far (q1.apart hR1 (by decide)) _) (own_far hown (hR1.notOwned hown (by decide))) ((q4.ag hR (by omega) hag).append (r4.ag hR (by omega) hag))
  rw [← nums_snoc (by omega)] at hloc
  exact h.join hin hb hLW (by rw [← hs1]; exact hsz) hag (hR1.set _ _) (by simp) (fun p hp => by rw [List.getElem?_set_ne (by omega)]) (by rw [List.getElem?_set_self (by omega)]) hG hloc
end
end Go.Proofs.Ytolphikbppmobab.mj
