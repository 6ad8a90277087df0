/-
  The model's marks and its rounds: which edges a round has looked at, what it may have turned.
  Conditions: none.
-/
import Derived.Test.YtgnccfofhcbjjaaLm
namespace Go.Proofs.Ytgnccfofhcbjjaa.lk
open Go.ChangeShapes Go.WideShapes Go.ChangeAt Go.RowKit
open kit dfs dst

/-- all the nodes -/
def univ (F : Ct) : List Nd := (List.range F.length).map .inl ++ (List.range F.length).flatMap fun f => (List.range (np F f)).map fun p => .inr (f, p)
theorem univ_mem {F : Ct} {v : Nd} (h : In F v) : v ∈ univ F := by
  unfold univ
  rcases v with f | ⟨f, p⟩
  · exact List.mem_append_left _ (List.mem_map.2 ⟨f, List.mem_range.2 h, rfl⟩)
  · exact List.mem_append_right _ (List.mem_flatMap.2 ⟨f, List.mem_range.2 h.1, List.mem_map.2 ⟨p, List.mem_range.2 h.2, rfl⟩⟩)
theorem univ_in {F : Ct} {v : Nd} (h : v ∈ univ F) : In F v := by
  unfold univ at h
  rcases List.mem_append.1 h with h | h
  · obtain ⟨f, hf, rfl⟩ := List.mem_map.1 h
    exact List.mem_range.1 hf
  · obtain ⟨f, hf, h⟩ := List.mem_flatMap.1 h
    obtain ⟨p, hp, rfl⟩ := List.mem_map.1 h
    exact ⟨List.mem_range.1 hf, List.mem_range.1 hp⟩
theorem free_congr {F : Ct} {R R2 : Nd → Bool} (h : ∀ x, In F x → R x = R2 x) : free (univ F) R = free (univ F) R2 := by
  unfold free
  apply List.countP_congr
  intro x hx
  rw [h x (univ_in hx)]
theorem succ_in {F : Ct} {g : Bool} (hf : Fits F) {x t : Nd} (hx : In F x) (ht : t ∈ succ F g x) : In F t := by
  rcases x with f | ⟨f, p⟩
  · have hx : f < F.length := hx
    have ok := hf.ok f hx
    rcases List.mem_append.1 ht with ht | ht
    · unfold cssSucc at ht
      split at ht
      · rw [List.mem_singleton.1 ht]
        show (fl F f).css.toNat < F.length
        have := ok.css.2
        omega
      · cases ht
    · unfold partsSucc at ht
      obtain ⟨p, hp, ht⟩ := List.mem_flatMap.1 ht
      have hp := List.mem_range.1 hp
      unfold partSucc at ht
      rcases List.mem_append.1 ht with ht | ht
      · unfold recAdds at ht
        obtain ⟨k, hk, ht⟩ := List.mem_flatMap.1 ht
        have hk := List.mem_range.1 hk
        unfold adds at ht
        split at ht
        · rename_i hh
          rw [List.mem_singleton.1 ht]
          show (rec_ F f p k).tgt.toNat < F.length
          have := (ok.tgt _ (ok.idx p hp k hk)).2
          have h0 := hh.2
          unfold rec_ pp at *
          omega
        · cases ht
      · split at ht
        · rw [List.mem_singleton.1 ht]; exact ⟨hx, hp⟩
        · cases ht
  · obtain ⟨hx, hp⟩ := hx
    rcases List.mem_cons.1 ht with rfl | ht
    · exact hx
    · obtain ⟨v, hv, rfl⟩ := List.mem_map.1 ht
      obtain ⟨k, hk, rfl⟩ := List.getElem_of_mem hv
      have this : In F (.inr (lk.dep (pp F f p).deps k)) := (hf.ok f hx).dep p hp k hk
      have e : lk.dep (pp F f p).deps k = (pp F f p).deps[k] := by unfold lk.dep; rw [List.getD_eq_getElem?_getD, List.getElem?_eq_getElem hk]; rfl
      rw [e] at this
      exact this
theorem rch_in {F : Ct} {g : Bool} (hf : Fits F) {s x : Nd} (hs : In F s) (h : Rch (succ F g) s x) : In F x := by
  induction h with
  | start => exact hs
  | step _ ht ih => exact succ_in hf ih ht

/-- a round of the model that began with R0: what is marked now, whether it has turned something, the edges D that it has looked at -/
structure St (F : Ct) (g : Bool) (s : Nd) (R0 R : Nd → Bool) (c : Bool) (D : Nd → Nd → Prop) : Prop where
  sound : ∀ x, R x = true → Rch (succ F g) s x
  seed : R s = true
  same : c = false → R = R0
  less : c = true → free (univ F) R < free (univ F) R0
  done : c = false → ∀ x t, D x t → R x = true → R t = true
section
variable {F : Ct} {g : Bool} {s : Nd} {R0 R : Nd → Bool} {c : Bool} {D D2 : Nd → Nd → Prop}
theorem St.weak (h : St F g s R0 R c D) (hD : ∀ x t, D2 x t → D x t ∨ R x = false ∨ R t = true) : St F g s R0 R c D2 :=
  ⟨h.sound, h.seed, h.same, h.less, fun hc x t hd hx => by
    rcases hD x t hd with q | q | q
    · exact h.done hc x t q hx
    · rw [hx] at q; cases q
    · exact q⟩
theorem St.mark (h : St F g s R0 R c D) (hf : Fits F) (hs : In F s) {x t : Nd} (hx : R x = true) (ht : t ∈ succ F g x) (hR : R t = false) (D2 : Nd → Nd → Prop) : St F g s R0 (upd R t true) true D2 := by
  have hr : Rch (succ F g) s t := .step (h.sound x hx) ht
  refine ⟨fun y hy => ?_, upd_up h.seed, fun hc => (by cases hc), fun _ => ?_, fun hc => (by cases hc)⟩
  · by_cases e : y = t
    · rw [e]; exact hr
    · rw [upd_ne _ _ e] at hy; exact h.sound y hy
  · have hlt := free_lt (us := univ F) (d := R) (d2 := upd R t true) (fun y hy => upd_up hy) (univ_mem (rch_in hf hs hr)) hR (upd_same _ _ _)
    cases hc : c
    · rw [h.same hc] at hlt ⊢; exact hlt
    · have := h.less hc; omega
/-- a round that turned nothing: everything that is reached is marked -/
theorem St.fin (h : St F g s R0 R false (fun x t => In F x ∧ t ∈ succ F g x)) (hf : Fits F) (hs : In F s) (x : Nd) : R x = true ↔ Rch (succ F g) s x := by
  refine ⟨h.sound x, fun hx => ?_⟩
  induction hx with
  | start => exact h.seed
  | step h1 h2 ih => exact h.done rfl _ _ ⟨rch_in hf hs h1, h2⟩ ih
end
def fileOf : Nd → Nat
  | .inl f => f
  | .inr (f, _) => f
def DI (F : Ct) (g : Bool) (i : Nat) (x t : Nd) : Prop := In F x ∧ t ∈ succ F g x ∧ fileOf x < i
def DJ (F : Ct) (g : Bool) (i j k : Nat) (x t : Nd) : Prop := DI F g i x t ∨ x = .inl i ∧ t ∈ cssSucc (fl F i).css ++ partsSucc F g i j ++ recAdds F g i j k
def DP (F : Ct) (g : Bool) (i j : Nat) (x t : Nd) : Prop := DI F g i x t ∨ (x = .inl i ∧ t ∈ succ F g x) ∨ ∃ p, p < j ∧ x = .inr (i, p) ∧ t ∈ succ F g x
def DQ (F : Ct) (g : Bool) (i j k : Nat) (x t : Nd) : Prop := DP F g i j x t ∨ x = .inr (i, j) ∧ t ∈ (.inl i : Nd) :: ((pp F i j).deps.take k).map .inr
section
variable {F : Ct} {g : Bool} {i j k : Nat} {R : Nd → Bool} {x t : Nd}
theorem DI.none (h : DI F g 0 x t) {P : Prop} : P := by have := h.2.2; omega
theorem DI.all (h : In F x ∧ t ∈ succ F g x) : DI F g F.length x t := ⟨h.1, h.2, by
  rcases x with f | ⟨f, p⟩
  · exact h.1
  · exact h.1.1⟩
/-- file i is not live: its edges do not count -/
theorem DP.dead (hR : R (.inl i) = false) (h : DP F g i 0 x t) : DI F g i x t ∨ R x = false ∨ R t = true := by
  rcases h with q | ⟨rfl, _⟩ | ⟨p, hp, _⟩
  · exact .inl q
  · exact .inr (.inl hR)
  · omega
theorem DJ.css (hR : ∀ v ∈ cssSucc (fl F i).css, R v = true) (h : DJ F g i 0 0 x t) : DI F g i x t ∨ R x = false ∨ R t = true := by
  rcases h with q | ⟨_, q⟩
  · exact .inl q
  · rw [show partsSucc F g i 0 = [] from rfl, show recAdds F g i 0 0 = [] from rfl, List.append_nil, List.append_nil] at q
    exact .inr (.inr (hR t q))
theorem DJ.rec (hR : ∀ v ∈ adds F g (rec_ F i j k), R v = true) (h : DJ F g i j (k + 1) x t) : DJ F g i j k x t ∨ R x = false ∨ R t = true := by
  rcases h with q | ⟨e, q⟩
  · exact .inl (.inl q)
  · rw [recAdds_succ, ← List.append_assoc] at q
    rcases List.mem_append.1 q with q | q
    · exact .inl (.inr ⟨e, q⟩)
    · exact .inr (.inr (hR t q))
theorem DJ.part (hk : k = (pp F i j).recs.length) (hR : keepP F g i j = true → R (.inr (i, j)) = true) (h : DJ F g i (j + 1) 0 x t) : DJ F g i j k x t ∨ R x = false ∨ R t = true := by
  subst hk
  rcases h with q | ⟨e, q⟩
  · exact .inl (.inl q)
  · rw [show recAdds F g i (j + 1) 0 = [] from rfl, List.append_nil, partsSucc_succ, ← List.append_assoc] at q
    unfold partSucc at q
    rw [← List.append_assoc] at q
    rcases List.mem_append.1 q with q | q
    · exact .inl (.inr ⟨e, q⟩)
    · split at q
      · rename_i hk
        rw [List.mem_singleton.1 q]
        exact .inr (.inr (hR hk))
      · cases q
theorem DP.start (h : DP F g i 0 x t) : DJ F g i (np F i) 0 x t ∨ R x = false ∨ R t = true := by
  rcases h with q | ⟨rfl, q⟩ | ⟨p, hp, _⟩
  · exact .inl (.inl q)
  · refine .inl (.inr ⟨rfl, ?_⟩)
    rw [show recAdds F g i (np F i) 0 = [] from rfl, List.append_nil]
    exact q
  · omega
theorem DP.off (hR : R (.inr (i, j)) = false) (h : DP F g i (j + 1) x t) : DP F g i j x t ∨ R x = false ∨ R t = true := by
  rcases h with q | q | ⟨p, hp, e, q⟩
  · exact .inl (.inl q)
  · exact .inl (.inr (.inl q))
  · by_cases ep : p = j
    · subst ep; rw [e]; exact .inr (.inl hR)
    · exact .inl (.inr (.inr ⟨p, by omega, e, q⟩))
theorem DQ.start (hR : R (.inl i) = true) (h : DQ F g i j 0 x t) : DP F g i j x t ∨ R x = false ∨ R t = true := by
  rcases h with q | ⟨_, q⟩
  · exact .inl q
  · rcases List.mem_cons.1 q with rfl | q
    · exact .inr (.inr hR)
    · simp at q
theorem DQ.step (hk : k < (pp F i j).deps.length) (hR : R (.inr (lk.dep (pp F i j).deps k)) = true) (h : DQ F g i j (k + 1) x t) : DQ F g i j k x t ∨ R x = false ∨ R t = true := by
  rcases h with q | ⟨e, q⟩
  · exact .inl (.inl q)
  · rw [List.take_succ_eq_append_getElem hk, List.map_append, ← List.cons_append] at q
    rcases List.mem_append.1 q with q | q
    · exact .inl (.inr ⟨e, q⟩)
    · refine .inr (.inr ?_)
      have e2 : lk.dep (pp F i j).deps k = (pp F i j).deps[k] := by unfold lk.dep; rw [List.getD_eq_getElem?_getD, List.getElem?_eq_getElem hk]; rfl
      rw [List.mem_singleton.1 q, ← e2]
      exact hR
theorem DQ.fin (h : DP F g i (j + 1) x t) : DQ F g i j (pp F i j).deps.length x t ∨ R x = false ∨ R t = true := by
  rcases h with q | q | ⟨p, hp, e, q⟩
  · exact .inl (.inl (.inl q))
  · exact .inl (.inl (.inr (.inl q)))
  · by_cases ep : p = j
    · subst ep
      refine .inl (.inr ⟨e, ?_⟩)
      rw [List.take_length]
      rw [e] at q
      exact q
    · exact .inl (.inl (.inr (.inr ⟨p, by omega, e, q⟩)))
theorem DI.next (h : DI F g (i + 1) x t) : DP F g i (np F i) x t ∨ R x = false ∨ R t = true := by
  obtain ⟨h1, h2, h3⟩ := h
  refine .inl ?_
  by_cases e : fileOf x < i
  · exact .inl ⟨h1, h2, e⟩
  · rcases x with f | ⟨f, p⟩
    · have : f = i := by have h3 : f < i + 1 := h3; have e : ¬ f < i := e; omega
      subst this
      exact .inr (.inl ⟨rfl, h2⟩)
    · have : f = i := by have h3 : f < i + 1 := h3; have e : ¬ f < i := e; omega
      subst this
      exact .inr (.inr ⟨p, h1.2, rfl, h2⟩)
end

/-- the marks of the model in memory -/
structure Marks (w : World) (q1 q2 : Nat) (G : Nat → Nat) (F : Ct) (R : Nd → Bool) : Prop where
  fl : Bools w q1 F.length (fun i => R (.inl i))
  rows : ∃ cs, Blk w q2 70 cs ∧ cs.length = F.length ∧ ∀ i, i < F.length → cs[i]? = some (.slice (some ⟨G i, 0, none⟩) (np F i) (np F i))
  pl : ∀ i, i < F.length → Bools w (G i) (np F i) (fun p => R (.inr (i, p)))
  apart : ∀ i k, i < F.length → k < F.length → G i = G k → i = k
  ne : ∀ i, i < F.length → G i ≠ q1
section
variable {w w2 : World} {q1 q2 : Nat} {G : Nat → Nat} {F : Ct} {R : Nd → Bool}
theorem Marks.kept (h : Marks w q1 q2 G F R) (k : Kept w w2) : Marks w2 q1 q2 G F R := by
  obtain ⟨cs, hb, r⟩ := h.rows
  exact ⟨h.fl.kept k, ⟨cs, hb.kept k, r⟩, fun i hi => (h.pl i hi).kept k, h.apart, h.ne⟩
theorem Marks.setF (h : Marks w q1 q2 G F R) {f : Nat} (hf : f < F.length) : Marks (w.setCell ⟨q1, f, none⟩ (.bool true)) q1 q2 G F (upd R (.inl f) true) := by
  obtain ⟨cs, hb, r⟩ := h.rows
  refine ⟨(h.fl.set hf true).congr (fun x _ => ?_), ⟨cs, hb.far (p := ⟨q1, f, none⟩) (h.fl.apart hb (by decide)) _, r⟩, fun i hi => ((h.pl i hi).far (p := ⟨q1, f, none⟩) (h.ne i hi) _).congr (fun p _ => (upd_ne _ _ (by simp)).symm), h.apart, h.ne⟩
  by_cases e : x = f
  · rw [if_pos e, e, upd_same]
  · rw [if_neg e, upd_ne _ _ (fun c => e (Sum.inl.inj c))]
theorem Marks.setP (h : Marks w q1 q2 G F R) {f p : Nat} (hf : f < F.length) (hp : p < np F f) : Marks (w.setCell ⟨G f, p, none⟩ (.bool true)) q1 q2 G F (upd R (.inr (f, p)) true) := by
  obtain ⟨cs, hb, r⟩ := h.rows
  refine ⟨(h.fl.far (p := ⟨G f, p, none⟩) (fun c => h.ne f hf c.symm) _).congr (fun x _ => (upd_ne _ _ (by simp)).symm), ⟨cs, hb.far (p := ⟨G f, p, none⟩) ((h.pl f hf).apart hb (by decide)) _, r⟩, fun i hi => ?_, h.apart, h.ne⟩
  by_cases e : i = f
  · subst e
    refine ((h.pl i hi).set hp true).congr (fun x _ => ?_)
    by_cases e : x = p
    · rw [if_pos e, e, upd_same]
    · rw [if_neg e, upd_ne _ _ (fun c => e (congrArg Prod.snd (Sum.inr.inj c)))]
  · exact ((h.pl i hi).far (p := ⟨G f, p, none⟩) (fun c => e (h.apart i f hi hf c)) _).congr (fun x _ => (upd_ne _ _ (fun c => e (congrArg Prod.fst (Sum.inr.inj c)))).symm)
theorem Marks.cellF (h : Marks w q1 q2 G F R) {f : Nat} (hf : f < F.length) : w.cell? ⟨q1, f, none⟩ = some (.bool (R (.inl f))) ∧ w.frozen? ⟨q1, f, none⟩ = false := ⟨h.fl.cell hf, h.fl.free f⟩
theorem Marks.row (h : Marks w q1 q2 G F R) {f : Nat} (hf : f < F.length) : w.cell? ⟨q2, f, none⟩ = some (.slice (some ⟨G f, 0, none⟩) (np F f) (np F f)) := by
  obtain ⟨cs, hb, _, r⟩ := h.rows
  rw [hb.cell]; exact r f hf
theorem Marks.cellP (h : Marks w q1 q2 G F R) {f p : Nat} (hf : f < F.length) (hp : p < np F f) : w.cell? ⟨G f, p, none⟩ = some (.bool (R (.inr (f, p)))) ∧ w.frozen? ⟨G f, p, none⟩ = false := ⟨(h.pl f hf).cell hp, (h.pl f hf).free p⟩
end
def bof : Option Value → Bool
  | some (.bool b) => b
  | _ => false
def Rof (W : World) (q1 : Nat) (G : Nat → Nat) : Nd → Bool
  | .inl f => bof (W.cell? ⟨q1, f, none⟩)
  | .inr (f, p) => bof (W.cell? ⟨G f, p, none⟩)
theorem Marks.of {w : World} {q1 q2 : Nat} {G : Nat → Nat} {F : Ct} {R : Nd → Bool} (h : Marks w q1 q2 G F R) : free (univ F) (Rof w q1 G) = free (univ F) R := free_congr fun x hx => by
  rcases x with f | ⟨f, p⟩
  · show bof _ = _; rw [(h.cellF hx).1]; rfl
  · show bof _ = _; rw [(h.cellP hx.1 hx.2).1]; rfl

structure Ek (w W : World) (F : Ct) (k : Nat) (G : Nat → Nat) : Prop where
  kept : Kept w W
  fl : Bools W w.heap.size F.length (fun _ => false)
  rows : ∃ cs, Blk W (w.heap.size + 1) 70 cs ∧ cs.length = F.length ∧ ∀ i, i < k → cs[i]? = some (.slice (some ⟨G i, 0, none⟩) (np F i) (np F i))
  pl : ∀ i, i < k → Bools W (G i) (np F i) (fun _ => false) ∧ w.heap.size + 1 < G i
  apart : ∀ i j, i < k → j < k → G i = G j → i = j
theorem Ek.step {w W : World} {k : Nat} {F : Ct} {G : Nat → Nat} {C : List Value} (h : Ek w W F k G) (hk : k < F.length) (hl : C.length = np F k) (hc : ∀ j, j < np F k → C[j]? = some (.bool false)) :
    Ek w ((W.alloc (.cells C.toArray 4)).setCell ⟨w.heap.size + 1, k, none⟩ (.slice (some ⟨W.heap.size, 0, none⟩) (np F k) (np F k))) F (k + 1) (upd G k W.heap.size) := by
  obtain ⟨cs, hb, hcl, r⟩ := h.rows
  have hlt := hb.lt
  have hk1 : Kept W (W.alloc (.cells C.toArray 4)) := (Kept.refl W).alloc _
  have lt : ∀ i, i < k → G i < W.heap.size := fun i hi => (h.pl i hi).1.lt
  refine ⟨(h.kept.alloc _).setCell (by show w.heap.size ≤ w.heap.size + 1; omega) _, (h.fl.kept hk1).far (p := ⟨w.heap.size + 1, k, none⟩) (by show w.heap.size ≠ w.heap.size + 1; omega) _, ⟨_, (hb.kept hk1).set _ _, by rw [List.length_set]; exact hcl, fun i hi => ?_⟩, fun i hi => ?_, fun i j hi hj e => ?_⟩
  · by_cases e : i = k
    · rw [e, List.getElem?_set_self (by omega), upd_same]
    · rw [List.getElem?_set_ne (by omega), upd_ne _ _ e]; exact r i (by omega)
  · by_cases e : i = k
    · rw [e, upd_same]
      exact ⟨(Bools.made W hl hc).far (p := ⟨w.heap.size + 1, k, none⟩) (by show W.heap.size ≠ w.heap.size + 1; omega) _, hlt⟩
    · rw [upd_ne _ _ e]
      obtain ⟨p1, p2⟩ := h.pl i (by omega)
      exact ⟨(p1.kept hk1).far (p := ⟨w.heap.size + 1, k, none⟩) (by show G i ≠ w.heap.size + 1; omega) _, p2⟩
  · by_cases ei : i = k
    · by_cases ej : j = k
      · rw [ei, ej]
      · rw [ei, upd_same, upd_ne _ _ ej] at e
        have := lt j (by omega); omega
    · by_cases ej : j = k
      · rw [ej, upd_same, upd_ne _ _ ei] at e
        have := lt i (by omega); omega
      · rw [upd_ne _ _ ei, upd_ne _ _ ej] at e
        exact h.apart i j (by omega) (by omega) e
/-- the empty marks are made -/
theorem Ek.fin {w W : World} {F : Ct} {G : Nat → Nat} (h : Ek w W F F.length G) : Marks W w.heap.size (w.heap.size + 1) G F (fun _ => false) ∧ (∀ i, i < F.length → w.heap.size ≤ G i) :=
  ⟨⟨h.fl, h.rows, fun i hi => (h.pl i hi).1, h.apart, fun i hi e => by have := (h.pl i hi).2; omega⟩, fun i hi => by have := (h.pl i hi).2; omega⟩
end Go.Proofs.Ytgnccfofhcbjjaa.lk
