/-
  The first call of addExportsForExportStar over this seat's program: what it wants is there, what it leaves.
  Conditions: the files are readable and fit.
-/
import Derived.Test.YtknmcbhcbomjmaaXp
import Derived.Test.YtknmcbhcbomjmaaWd
import Derived.Test.YtknmcbhcbomjmaaOpen
namespace Go.Proofs.Ytknmcbhcbomjmaa.xs
open Go.ChangeShapes Go.WideShapes Go.ChangeAt Go.RowKit
open kit
open Go.Maps (Keyed)
open Go.ChangeMaps (setBlock)

noncomputable def layOf (w w2 : World) (cb n : Nat) (q : Pl) (fs : List EF) (sz : Nat → Nat) : Lay := ⟨cb, w.heap.size + 1, n, w2.heap.size, w2.heap.size + 1, q.J, q.R, q.X, q.N, q.I, Kf fs, sz, Tf fs, ekF fs, fun i a => NEf fs i a⟩
theorem resV_zero (V : ByteArray → Value) : resV V (fun _ => none) = fun _ => none := by
  funext v
  cases v <;> rfl
theorem bndV_zero : bndV (fun _ => false) = fun _ => none := by
  funext v
  unfold bndV
  rw [if_neg]
  rintro ⟨q, _, h⟩
  cases h
section
variable {w w1 w2 : World} {n cb : Nat} {q : Pl} {fs : List EF} {a : Option Addr} {cs : List Value} {s : Nat}
theorem in_lt (hT : Fit n fs) (hs : s < n) {v : Nat} (h : InF fs s v) : v < n := by
  have step : ∀ {u t : Nat}, u < n → Edge (vt fs) (cjF fs) u t → t < n := fun {u t} hu he => by
    obtain ⟨i, hi, ht⟩ := List.mem_filterMap.1 he.1
    exact hT.target hu (List.mem_range.1 hi) ht
  induction h with
  | one e => exact step hs e
  | more _ e ih => exact step ih e
theorem begins (h : Bd w w1 n n q fs) (hF : Fs w a n fs) (hT : Fit n fs) (hs : s < n) (k : Kept w1 w2) (hc : Blk w2 cb 201 cs) (hcs : cs[10]? = some (.slice (some ⟨w.heap.size + 1, 0, none⟩) n n)) :
    ∃ sz, Apt (layOf w w2 cb n q fs sz) ∧ Pre (layOf w w2 cb n q fs sz) s (w2.alloc (.map #[] 0)) [] s (.slice none 0 0) (fun _ => .slice none 0 0) (fun _ => none) 0 (fun _ _ => false) (fun _ => 0) := by
  have each : ∀ i, i < n → ∃ sz, mapv.MapV Try.prog 9 w1 (q.N i) sz (neV i (NEf fs i)) := fun i hi => (h.one i hi).ne
  obtain ⟨sz, hsz⟩ := Go.Deep.choose_lt each
  have one2 : ∀ i, i < n → One w2 (q.J i) (q.R i) (q.X i) (q.N i) (q.I i) i (fs.getD i default) := fun i hi => (h.one i hi).kept k
  have kz : Kept w2 (w2.alloc (.map #[] 0)) := (Kept.refl _).alloc _
  have ksz := k.size
  obtain ⟨c2, p2, l2, e2⟩ := h.lf
  have p2' := p2.kept k
  have hib : ∀ i, i < n → q.I i < w2.heap.size := fun i hi => by have := (h.low i hi).2.2.2.2.2; omega
  have hne : ∀ {b t : Nat} {cs : List Value}, Blk w2 b t cs → b < w2.heap.size + 1 ∧ b ≠ w2.heap.size ∧ ∀ i, i < n → b ≠ q.I i := fun {b t cs} hb => by
    have := hb.lt
    exact ⟨by omega, by omega, fun i hi => blk_ne hb (one2 i hi).ib⟩
  refine ⟨sz, ⟨fun b hb => ?_, ⟨Nat.lt_succ_self _, fun i hi => ?_⟩, fun i hi => ⟨?_, fun j hj e => ?_⟩, hT.top, hT.len, fun i j t hi hj ht => hT.target hi hj ht, fun i a j hi hj => ?_⟩, ⟨?_, ?_, Jv.start, World.ownsRow_nil _ _ 23 1, by simp [layOf], List.nodup_nil, fun x hx => (by cases hx), hs, .inl rfl, by simp, NEf_inj fs, ?_, fun a e he => (by cases he)⟩⟩
  · rcases hb with rfl | rfl | ⟨i, hi, rfl | rfl | rfl | rfl⟩
    · exact hne hc
    · exact hne p2'
    · obtain ⟨c, hb, _⟩ := (one2 i hi).js
      exact hne hb
    · obtain ⟨c, hb, _⟩ := (one2 i hi).recs
      exact hne hb
    · obtain ⟨c, hb, _⟩ := (one2 i hi).idx
      exact hne hb
    · have h1 := h.low i hi
      refine ⟨?_, ?_, fun j hj e => ?_⟩
      · show q.N i < w2.heap.size + 1; omega
      · show q.N i ≠ w2.heap.size; omega
      · have e : q.N i = q.I j := e
        have h2 := h.low j hj
        by_cases c : i = j
        · subst c; omega
        · by_cases c2 : i < j
          · have := h.ord i j c2 hj
            omega
          · have := h.ord j i (by omega) hi
            omega
  · have := hib i hi
    show w2.heap.size ≠ q.I i
    omega
  · have := hib i hi
    show q.I i < w2.heap.size + 1
    omega
  · have e : q.I i = q.I j := e
    have h1 := h.low i hi
    have h2 := h.low j hj
    apply Classical.byContradiction
    intro c
    by_cases c2 : i < j
    · have := h.ord i j c2 hj
      omega
    · have := h.ord j i (by omega) hi
      omega
  · have h1 := (NEf_at hj).1
    have h2 := hT.ex hi
    omega
  · refine ⟨⟨cs, hc.kept kz, hcs⟩, ⟨c2, p2'.kept kz, e2⟩, fun i hi => ?_, fun i hi => ?_, fun i hi => ?_, fun i hi => ((hsz i hi).kept k).kept kz⟩
    · obtain ⟨c, hb, _, r1, r2, r3, r4, r5⟩ := (one2 i hi).js
      exact ⟨c, hb.kept kz, r1, r2, r3, r4, r5⟩
    · obtain ⟨c, hb, r⟩ := (one2 i hi).recs
      exact ⟨c, hb.kept kz, r⟩
    · obtain ⟨c, hb, r⟩ := (one2 i hi).idx
      exact ⟨c, hb.kept kz, r⟩
  · refine ⟨?_, fun a e he => (by cases he), fun a a2 e e2 he => (by cases he), fun i hi => ?_⟩
    · rw [resV_zero]
      exact mapf.MapF.made Try.prog 9 w2
    · show mapf.MapF Try.prog 44 _ (q.I i) 0 (bndV fun _ => false)
      rw [bndV_zero]
      exact (one2 i hi).ib.kept kz
  · have : bud (dF fs) n [] ≤ 16384 := bud_nil hT.top hT.prod
    show bud (dF fs) n [] ≤ 100000
    omega
/-- what the first call leaves -/
structure Left (w w3 : World) (L : Lay) (s : Nat) (V : ByteArray → Value) (ρ : ByteArray → Option Ent) (R : Nat) (β : Nat → Nat × Nat → Bool) (bn : Nat → Nat) : Prop where
  kept : Kept w w3
  st : St L w3 V ρ R β bn
  mem : Mem L w3
  jv : Jv L.n s (InN L s) L.NE dflt ρ β R bn
  base : L.B0 ≤ w3.heap.size
  amb : ∀ a e, ρ a = some e → e.amb.length ≤ 16384
  is : ∀ a, (ρ a).isSome = true ↔ Sc L [] s a
theorem leaves {w3 : World} {sz : Nat → Nat} {e : Ending} (h : Bd w w1 n n q fs) (hT : Fit n fs) (k : Kept w1 w2) (A : Apt (layOf w w2 cb n q fs sz))
    (hP : Pre (layOf w w2 cb n q fs sz) s (w2.alloc (.map #[] 0)) [] s (.slice none 0 0) (fun _ => .slice none 0 0) (fun _ => none) 0 (fun _ _ => false) (fun _ => 0))
    (hp : Post (layOf w w2 cb n q fs sz) s (w2.alloc (.map #[] 0)) [] s (.slice none 0 0) (fun _ => none) e w3) :
    e = .returned (.tuple #[]) ∧ (∀ i, i < n → w3.cell? ⟨w.heap.size, i, none⟩ = some (.pointer (some ⟨q.J i, 0, none⟩))) ∧ ∃ V ρ R β bn, Left w w3 (layOf w w2 cb n q fs sz) s V ρ R β bn := by
  obtain ⟨he, V, ρ, R, β, bn, st, jv, stp, tn, _⟩ := hp
  have ksz := k.size
  have hsz := h.kept.size
  have kz : Kept w1 (w2.alloc (.map #[] 0)) := k.alloc _
  have hb : bud (dg (layOf w w2 cb n q fs sz)) (layOf w w2 cb n q fs sz).n [] ≤ 16384 := bud_nil (d := dF fs) hT.top hT.prod
  have hz : (w2.alloc (.map #[] 0)).heap.size = w2.heap.size + 1 := by simp
  have tnb : ∀ b, b < w2.heap.size → (∀ i, i < n → b ≠ q.I i) → w3.heap[b]? = (w2.alloc (.map #[] 0)).heap[b]? := fun b hb hi =>
    tn.block b (by omega) (by show b ≠ w2.heap.size; omega) hi (by simp [Value.ownBlock]) (fun c => by have c : w2.heap.size + 1 ≤ b := c; omega)
  refine ⟨he, fun i hi => ?_, V, ρ, R, β, bn, ⟨?_, st, hP.mem.tn A tn (fun k hk => by simp [Value.ownBlock] at hk), jv, by
    have := tn.size
    show w2.heap.size + 1 ≤ _
    omega, fun a e ha => ?_, fun a => stp_is stp a⟩⟩
  · obtain ⟨c1, p1, l1, e1⟩ := h.rp
    have p2 := p1.kept kz
    have p3 : Blk w3 w.heap.size 96 c1 := (tnb _ (by have := p1.lt; omega) (fun i hi => blk_ne p1 (h.one i hi).ib)).trans p2
    rw [p3.cell]
    exact e1 i hi
  · refine ⟨tn.os.trans (h.kept.trans kz).os, tn.tape.trans (h.kept.trans kz).tape, tn.output.trans (h.kept.trans kz).output, ?_, fun b hb => ?_⟩
    · have := tn.size
      have := (h.kept.trans kz).size
      omega
    · refine (tnb b (by omega) fun i hi => ?_).trans ((h.kept.trans kz).block b hb)
      have := h.low i hi
      omega
  · have := (stp.new a e ha rfl).2
    omega
theorem Left.aft {w3 : World} {sz : Nat → Nat} {V : ByteArray → Value} {ρ : ByteArray → Option Ent} {R : Nat} {β : Nat → Nat × Nat → Bool} {bn : Nat → Nat} {b off : Nat} (h : Left w w3 (layOf w w2 cb n q fs sz) s V ρ R β bn) (hF : Fs w (some ⟨b, off, none⟩) n fs) (hT : Fit n fs) (hs : s < n)
    (hr : ∀ i, i < n → w3.cell? ⟨w.heap.size, i, none⟩ = some (.pointer (some ⟨q.J i, 0, none⟩))) : Aft w3 fs n s b off w.heap.size w2.heap.size (w2.heap.size + 1) q.J q.I V ρ R β bn := by
  refine ⟨fun i hi => ?_, hr, fun i hi => (h.mem.cells hi).1, h.st.res, fun a e he => ⟨h.st.amb a e he, by have := h.amb a e he; omega⟩, h.st.bnd, fun a e he => ?_, h.jv.hold, fun a => ?_, h.jv.sum, hT, hs, fun i hi x hx => ?_⟩
  · obtain ⟨b2, off2, e, _, hf⟩ := hF.at_ hi
    simp only [Option.some.injEq, Addr.mk.injEq, and_true] at e
    obtain ⟨rfl, rfl⟩ := e
    exact hf.kept h.kept
  · obtain ⟨h1, h2, _, _, h5⟩ := h.jv.ent a e he
    exact ⟨h1, in_lt hT hs h1, h2, fun p hp => ⟨(h5 p hp).1, (h5 p hp).2.1, in_lt hT hs (h5 p hp).2.1, (h5 p hp).2.2⟩⟩
  · rw [h.is a, sc_iff]
    constructor
    · rintro ⟨h1, h2, v, h3, h4⟩
      exact ⟨h1, h2, v, h3, in_lt hT hs h3, h4⟩
    · rintro ⟨h1, h2, v, h3, _, h4⟩
      exact ⟨h1, h2, v, h3, h4⟩
  · exact (hF.2.2 _ (hF.mem hi)).2.1 x hx
/-- .. is what a second call wants -/
theorem Left.again {w3 W : World} {sz : Nat → Nat} {V : ByteArray → Value} {ρ : ByteArray → Option Ent} {R : Nat} {β : Nat → Nat × Nat → Bool} {bn : Nat → Nat} (h : Left w w3 (layOf w w2 cb n q fs sz) s V ρ R β bn) (A : Apt (layOf w w2 cb n q fs sz)) (hT : Fit n fs) (hs : s < n) (k : Kept w3 W) :
    Pre (layOf w w2 cb n q fs sz) s W [] s (.slice none 0 0) V ρ R β bn := by
  have hb : bud (dg (layOf w w2 cb n q fs sz)) (layOf w w2 cb n q fs sz).n [] ≤ 16384 := bud_nil (d := dF fs) hT.top hT.prod
  exact ⟨h.mem.kept k, h.st.kept A k, h.jv, World.ownsRow_nil _ _ 23 1, Nat.le_trans h.base k.size, List.nodup_nil, fun x hx => (by cases hx), hs, .inl rfl, by simp, NEf_inj fs, by omega, fun a e he => by have := h.amb a e he; omega⟩
end
end Go.Proofs.Ytknmcbhcbomjmaa.xs
