/-
  The marks of the model in memory over this seat's program; tsEmpty.
  Conditions: the files are readable and small.
-/
import Derived.Test.YtbdchplgefgkjabTp
import Derived.Test.YtbdchplgefgkjabWork
namespace Go.Proofs.Ytbdchplgefgkjab.tm
open Go.ChangeShapes Go.WideShapes Go.ChangeAt Go.RowKit
open kit dfs

structure Marks (w : World) (q1 q2 n : Nat) (G : Nat → Nat) (F : Ct) (R : Nd → Bool) : Prop where
  fl : Bools w q1 n (fun i => R (.inl i))
  rows : ∃ cs, Blk w q2 31 cs ∧ cs.length = n ∧ ∀ i, i < n → cs[i]? = some (.slice (some ⟨G i, 0, none⟩) (np F i) (np F i))
  pl : ∀ i, i < n → Bools w (G i) (np F i) (fun p => R (.inr (i, p)))
  apart : ∀ i k, i < n → k < n → G i = G k → i = k
  ne : ∀ i, i < n → G i ≠ q1
/-- the blocks that hold marks -/
def GB (q1 n : Nat) (G : Nat → Nat) (b : Nat) : Prop := b = q1 ∨ ∃ i, i < n ∧ G i = b
section
variable {w w2 : World} {q1 q2 n : Nat} {G : Nat → Nat} {F : Ct} {R : Nd → Bool}
theorem Marks.kept (h : Marks w q1 q2 n G F R) (k : Kept w w2) : Marks w2 q1 q2 n G F R := by
  obtain ⟨cs, hb, r⟩ := h.rows
  exact ⟨h.fl.kept k, ⟨cs, hb.kept k, r⟩, fun i hi => (h.pl i hi).kept k, h.apart, h.ne⟩
theorem Marks.grown (h : Marks w q1 q2 n G F R) {row : Option Nat} (g : w.grownBy w2 row) (h1 : some q1 ≠ row) (h2 : some q2 ≠ row) (h3 : ∀ i, i < n → some (G i) ≠ row) : Marks w2 q1 q2 n G F R := by
  obtain ⟨cs, hb, r⟩ := h.rows
  exact ⟨h.fl.grown g h1, ⟨cs, hb.grown g h2, r⟩, fun i hi => (h.pl i hi).grown g (h3 i hi), h.apart, h.ne⟩
theorem Marks.setF (h : Marks w q1 q2 n G F R) {f : Nat} (hf : f < n) : Marks (w.setCell ⟨q1, f, none⟩ (.bool true)) q1 q2 n G F (upd R (.inl f) true) := by
  obtain ⟨cs, hb, r⟩ := h.rows
  refine ⟨(h.fl.set hf true).congr (fun x _ => ?_), ⟨cs, hb.far (p := ⟨q1, f, none⟩) (h.fl.apart hb (by decide)) _, r⟩, fun i hi => ((h.pl i hi).far (p := ⟨q1, f, none⟩) (h.ne i hi) _).congr (fun p _ => (upd_ne _ _ (by simp)).symm), h.apart, h.ne⟩
  by_cases e : x = f
  · rw [if_pos e, e, upd_same]
  · rw [if_neg e, upd_ne _ _ (fun c => e (Sum.inl.inj c))]
theorem Marks.setP (h : Marks w q1 q2 n G F R) {f p : Nat} (hf : f < n) (hp : p < np F f) : Marks (w.setCell ⟨G f, p, none⟩ (.bool true)) q1 q2 n G F (upd R (.inr (f, p)) true) := by
  obtain ⟨cs, hb, r⟩ := h.rows
  refine ⟨(h.fl.far (p := ⟨G f, p, none⟩) (fun c => h.ne f hf c.symm) _).congr (fun x _ => (upd_ne _ _ (by simp)).symm), ⟨cs, hb.far (p := ⟨G f, p, none⟩) ((h.pl f hf).apart hb (by decide)) _, r⟩, fun i hi => ?_, h.apart, h.ne⟩
  by_cases e : i = f
  · subst e
    refine ((h.pl i hi).set hp true).congr (fun x _ => ?_)
    by_cases e : x = p
    · rw [if_pos e, e, upd_same]
    · rw [if_neg e, upd_ne _ _ (fun c => e (congrArg Prod.snd (Sum.inr.inj c)))]
  · exact ((h.pl i hi).far (p := ⟨G f, p, none⟩) (fun c => e (h.apart i f hi hf c)) _).congr (fun x _ => (upd_ne _ _ (fun c => e (congrArg Prod.fst (Sum.inr.inj c)))).symm)
theorem Marks.cellF (h : Marks w q1 q2 n G F R) {f : Nat} (hf : f < n) : w.cell? ⟨q1, f, none⟩ = some (.bool (R (.inl f))) ∧ w.frozen? ⟨q1, f, none⟩ = false := ⟨h.fl.cell hf, h.fl.free f⟩
theorem Marks.row (h : Marks w q1 q2 n G F R) {f : Nat} (hf : f < n) : w.cell? ⟨q2, f, none⟩ = some (.slice (some ⟨G f, 0, none⟩) (np F f) (np F f)) := by
  obtain ⟨cs, hb, _, r⟩ := h.rows
  rw [hb.cell]; exact r f hf
theorem Marks.cellP (h : Marks w q1 q2 n G F R) {f p : Nat} (hf : f < n) (hp : p < np F f) : w.cell? ⟨G f, p, none⟩ = some (.bool (R (.inr (f, p)))) ∧ w.frozen? ⟨G f, p, none⟩ = false := ⟨(h.pl f hf).cell hp, (h.pl f hf).free p⟩
end

structure Ek (w W : World) (n : Nat) (F : Ct) (k : Nat) (G : Nat → Nat) : Prop where
  kept : Kept w W
  fl : Bools W w.heap.size n (fun _ => false)
  rows : ∃ cs, Blk W (w.heap.size + 1) 31 cs ∧ cs.length = n ∧ ∀ i, i < k → cs[i]? = some (.slice (some ⟨G i, 0, none⟩) (np F i) (np F i))
  pl : ∀ i, i < k → Bools W (G i) (np F i) (fun _ => false) ∧ w.heap.size + 1 < G i
  apart : ∀ i j, i < k → j < k → G i = G j → i = j
theorem Ek.step {w W : World} {n k : Nat} {F : Ct} {G : Nat → Nat} {C : List Value} (h : Ek w W n F k G) (hk : k < n) (hl : C.length = np F k) (hc : ∀ j, j < np F k → C[j]? = some (.bool false)) :
    Ek w ((W.alloc (.cells C.toArray 4)).setCell ⟨w.heap.size + 1, k, none⟩ (.slice (some ⟨W.heap.size, 0, none⟩) (np F k) (np F k))) n F (k + 1) (upd G k W.heap.size) := by
  obtain ⟨cs, hb, hcl, r⟩ := h.rows
  have hlt := hb.lt
  have hk1 : Kept W (W.alloc (.cells C.toArray 4)) := (Kept.refl W).alloc _
  have lt : ∀ i, i < k → G i < W.heap.size := fun i hi => (h.pl i hi).1.lt
  refine ⟨(h.kept.alloc _).setCell (by show w.heap.size ≤ w.heap.size + 1; omega) _, (h.fl.kept hk1).far (p := ⟨w.heap.size + 1, k, none⟩) (by show w.heap.size ≠ w.heap.size + 1; omega) _, ⟨_, (hb.kept hk1).set _ _, by rw [List.length_set]; exact hcl, fun i hi => ?_⟩, fun i hi => ?_, fun i j hi hj e => ?_⟩
  · by_cases e : i = k
    · rw [e, List.getElem?_set_self (by omega), upd_same]
    · rw [List.getElem?_set_ne (by omega), upd_ne _ _ e]; exact r i (by omega)
  · by_cases e : i = k
    · rw [e, upd_same]
      exact ⟨(Bools.made W hl hc).far (p := ⟨w.heap.size + 1, k, none⟩) (by show W.heap.size ≠ w.heap.size + 1; omega) _, hlt⟩
    · rw [upd_ne _ _ e]
      obtain ⟨p1, p2⟩ := h.pl i (by omega)
      exact ⟨(p1.kept hk1).far (p := ⟨w.heap.size + 1, k, none⟩) (by show G i ≠ w.heap.size + 1; omega) _, p2⟩
  · by_cases ei : i = k
    · by_cases ej : j = k
      · rw [ei, ej]
      · rw [ei, upd_same, upd_ne _ _ ej] at e
        have := lt j (by omega); omega
    · by_cases ej : j = k
      · rw [ej, upd_same, upd_ne _ _ ei] at e
        have := lt i (by omega); omega
      · rw [upd_ne _ _ ei, upd_ne _ _ ej] at e
        exact h.apart i j (by omega) (by omega) e
def EmptyP (w : World) (n : Nat) (F : Ct) (e : Ending) (w' : World) : Prop :=
  e = .returned (.tuple #[.slice (some ⟨w.heap.size, 0, none⟩) n n, .slice (some ⟨w.heap.size + 1, 0, none⟩) n n]) ∧ ∃ G, Marks w' w.heap.size (w.heap.size + 1) n G F (fun _ => false) ∧ (∀ i, i < n → w.heap.size ≤ G i) ∧ Kept w w'
def A9 (w : World) (n : Nat) (F : Ct) (t6 : Value) (W : World) : Prop := ∃ (k : Nat) (G : Nat → Nat), k ≤ n ∧ t6 = .int .i64 (k : Int) ∧ Ek w W n F k G

set_option maxRecDepth 100000 in
set_option maxHeartbeats 8000000 in
theorem empty (w : World) (a : Option Addr) (n c : Nat) (F : Ct) (h : FilesC w a n F) (hn : n ≤ 131072) (hl : Lens F 131072 n) :
    Calls Try.prog 9 #[.slice a n c] w (EmptyP w n F) := by
  obtain ⟨C1, l1, g1, m1⟩ := makeN (T := 31) (E := 4) (size := 1) (bytes := 1) Try.underlying31 (by kernel_rfl) n (by omega) (by omega)
  obtain ⟨C2, l2, g2, m2⟩ := makeN (T := 32) (E := 31) (size := 1) (bytes := 24) Try.underlying32 (by kernel_rfl) n (by omega) (by omega)
  have z1 := g1 0 (.bool false) (by omega) (by kernel_rfl)
  simp only [Nat.mul_one, Nat.add_zero] at z1 l1 l2
  have HA0 : Hid (A9 w n F (.int .i64 0) ((w.alloc (.cells C1.toArray 4)).alloc (.cells C2.toArray 31))) := Lib.hid ⟨0, fun _ => 0, Nat.zero_le _, rfl, ((Kept.refl _).alloc _).alloc _, (Bools.made w l1 z1).kept ((Kept.refl _).alloc _),
    ⟨C2, by have := Blk.new (w.alloc (.cells C1.toArray 4)) 31 C2; simpa using this, l2, fun i hi => absurd hi (by omega)⟩, fun i hi => absurd hi (by omega), fun i j hi => absurd hi (by omega)⟩
  have HF := Lib.hid h
  have HL := Lib.hid hl
  clear h hl g1 g2 z1 l1 l2
  go_enter Try.func9, Try.ntmps9
  go_wp2_with fail
  clear m1 m2
  generalize (w.alloc (.cells C1.toArray 4)).alloc (.cells C2.toArray 31) = wa at *
  go_loopw [6] (fun t6 W => A9 w n F t6 W) (fun t6 _ => n - (intOf t6).toNat)
  case atStart => exact HA0.out
  case round =>
    obtain ⟨k, G, hk, rfl, hE⟩ := hrel
    have HE := Lib.hid hE
    clear hE HA0
    by_cases hlt : k < n
    · obtain ⟨b, off, pa, pc, rfl, hb, c0, hpc, hpm, hp0, hP⟩ := HF.out.at_ hlt
      have d0 := HE.out.kept.cell c0
      have k0 : (k : Int) < (n : Int) := by omega
      have hnp : np F k ≤ 131072 := (HL.out k hlt).1
      obtain ⟨C3, l3, g3, m3⟩ := makeN (T := 31) (E := 4) (size := 1) (bytes := 1) Try.underlying31 (by kernel_rfl) (np F k) (by omega) (by omega)
      have z3 := g3 0 (.bool false) (by omega) (by kernel_rfl)
      simp only [Nat.mul_one, Nat.add_zero] at z3 l3
      have HN := Lib.hid (HE.out.step hlt l3 z3)
      obtain ⟨cs, hb2, hl2, _⟩ := HE.out.rows
      obtain ⟨v, y1, y2⟩ := (hb2.alloc (.cells C3.toArray 4)).has (i := k) (by omega)
      clear c0 hP hp0 g3 z3 l3 hb2 hl2
      generalize np F k = m at *
      go_wp2_with fail
      go_roundw
      case rel => exact ⟨k + 1, _, by omega, by go_num, HN.out⟩
      case measure => simp [intOf]; omega
    · obtain rfl : n = k := by omega
      go_wp2_with fail
      go_ret2
      refine ⟨rfl, G, ⟨HE.out.fl, HE.out.rows, fun i hi => (HE.out.pl i hi).1, HE.out.apart, fun i hi e => ?_⟩, fun i hi => ?_, HE.out.kept⟩
      · have := (HE.out.pl i hi).2; omega
      · have := (HE.out.pl i hi).2; omega
end Go.Proofs.Ytbdchplgefgkjab.tm
