/-
  A walk through a region that draws its order, in which the condition on the world is not asked behind one operation, which waits for all others: so it may turn a cell that the region has read.
  Conditions: none.
-/
import Derived.Test.YtgjhmbbbkkidlaaGreatDoorKit
import Derived.Deep.RegionHeld3
namespace Go.Proofs.YtgjhmbbbkkidlaaGreatDoor.kit
open Go.ChangeShapes Go.WideShapes Go.ChangeAt Go.RowKit

section
variable {P : Program} {ops : Array Oper} {Q : Exit → Act → World → Prop} {md : Region.Mode} {S : World → Prop}
/-- whatever order is picked from here on; S holds behind each operation but number m -/
def Late (P : Program) (md : Region.Mode) (ops : Array Oper) (Q : Exit → Act → World → Prop) (S : World → Prop) (m : Nat) : Nat → Array Bool → Act → World → Prop
  | 0, l, a, w => Region.ready md ops l = [] ∧ Q .normal a w
  | n + 1, l, a, w => (Region.ready md ops l = [] → Q .normal a w) ∧ ∀ i ∈ Region.ready md ops l, wpOp P ops Q i (fun a' w' => (i ≠ m → S w') ∧ Late P md ops Q S m n (l.setIfInBounds i true) a' w') a w
variable {m : Nat}
theorem Late.any : ∀ (n : Nat) (l : Array Bool) (a : Act) (w : World), Late P md ops Q S m n l a w → wpAny P md ops Q n l a w
  | 0, _, _, _, h => h
  | n + 1, _, _, _, h => ⟨h.1, fun i hi => wpOp_mono (fun a' w' h' => Late.any n _ a' w' h'.2) (h.2 i hi)⟩
theorem Late.done {l : Array Bool} {a : Act} {w : World} (hr : Region.ready md ops l = []) (h : Q .normal a w) : ∀ n, Late P md ops Q S m n l a w
  | 0 => ⟨hr, h⟩
  | _ + 1 => ⟨fun _ => h, fun i hi => by rw [hr] at hi; cases hi⟩
/-- number m waits for number i -/
def waits (md : Region.Mode) (ops : Array Oper) (m i : Nat) : Bool := match ops[m]? with
  | some o => o.after.any fun e => Region.binds md e && e.on == i
  | none => true
theorem not_ready {i : Nat} {l : Array Bool} (hw : waits md ops m i = true) (hi : l.getD i true = false) : m ∉ Region.ready md ops l := fun h => by
  obtain ⟨_, o, ho, hall⟩ := mem_ready.1 h
  unfold waits at hw
  rw [ho] at hw
  obtain ⟨e, he, h2⟩ := Array.any_eq_true'.1 hw
  simp only [Bool.and_eq_true, beq_iff_eq] at h2
  have h3 := hall e he h2.1
  rw [h2.2] at h3
  by_cases hs : i < l.size
  · simp [hs] at hi h3; rw [hi] at h3; cases h3
  · simp [Array.getElem?_eq_none (Nat.le_of_not_lt hs)] at h3
/-- what only reads may go first -/
theorem Late.first {i : Nat} {oi : Oper} {v : Value} (hi : ops[i]? = some oi) (hm : waits md ops m i = true) (hsel : ∀ (j : Nat) (o : Oper) cs b, ops[j]? = some o → o.op ≠ .select cs b) (hQ : ∀ c a w, Q (.panic c) (a.put oi.dst v) w → Q (.panic c) a w) :
    ∀ (n : Nat) (l : Array Bool) (a : Act) (w : World), (∀ j oj, ops[j]? = some oj → j ≠ i → l.getD j true = false → (∀ e ∈ oj.after, Region.binds md e = true → e.on ≠ i) → oi.apart ops oj = true) →
      i ∈ Region.ready md ops l → YieldsIf P ops S oi v a → S w → Late P md ops Q S m n (l.setIfInBounds i true) (a.put oi.dst v) w → Late P md ops Q S m (n + 1) l a w := by
  intro n
  induction n with
  | zero =>
    intro l a w _ hr hy hS H
    refine ⟨fun h => (by rw [h] at hr; cases hr), fun j hj => ?_⟩
    rcases Classical.em (j = i) with rfl | hji
    · exact hy.wpOp hi hS ⟨fun _ => hS, H⟩
    · have hno := ready_mono hj hji
      rw [H.1] at hno
      cases hno
  | succ n ih =>
    intro l a w hfree hr hy hS H
    refine ⟨fun h => (by rw [h] at hr; cases hr), fun j hj => ?_⟩
    rcases Classical.em (j = i) with rfl | hji
    · exact hy.wpOp hi hS ⟨fun _ => hS, H⟩
    · obtain ⟨hjun, oj, hoj, hall⟩ := mem_ready.1 hj
      have hi0 := (mem_ready.1 hr).1
      have hjm : j ≠ m := fun e => not_ready hm hi0 (e ▸ hj)
      have hnot : ∀ e ∈ oj.after, Region.binds md e = true → e.on ≠ i := fun e he hb hei => by
        have hd := hall e he hb
        rw [hei] at hd
        by_cases hs : i < l.size
        · simp [hs] at hi0 hd; rw [hi0] at hd; cases hd
        · simp [Array.getElem?_eq_none (Nat.le_of_not_lt hs)] at hd
      refine wpOp_mono (fun a' w' g => ?_) (wpOp_putIf hoj (hfree j oj hoj hji hjun hnot) (fun cs b => hsel i oi cs b hi) (fun cs b => hsel j oj cs b hoj) hQ hy (H.2 j (ready_mono hj hji)))
      obtain ⟨gy, gS, gH⟩ := g
      have comm : (l.setIfInBounds i true).setIfInBounds j true = (l.setIfInBounds j true).setIfInBounds i true := Array.setIfInBounds_comm _ _ (Ne.symm hji)
      rw [comm] at gH
      refine ⟨fun _ => gS hjm, ih _ a' w' (fun k ok hk hki hun hno => hfree k ok hk hki ?_ hno) (ready_mono hr (Ne.symm hji)) gy (gS hjm) gH⟩
      rcases Classical.em (j = k) with rfl | hjk
      · exact hjun
      · rwa [getD_set_ne true hjk] at hun
/-- an operation that only reads, taken first -/
theorem Late.take {n : Nat} {l : Array Bool} {a : Act} {w : World} (i : Nat) (d : Option Tmp) (v : Value) {oi : Oper} (hi : ops[i]? = some oi) (hd : oi.dst = d) (hm : waits md ops m i = true)
    (hs : Region.noSelect ops = true) (hf : Region.free md ops l i = true) (hr : (Region.ready md ops l).contains i = true) (hQ : ∀ c a w, Q (.panic c) (a.put d v) w → Q (.panic c) a w)
    (hw : Region.wanted oi (yielded ops a.tmps) = true) (hv : ∀ w, S w → (execOp a.eval oi).run P w = .ok (.value v) w) (hS : S w) (h : Late P md ops Q S m n (l.setIfInBounds i true) (a.put d v) w) : Late P md ops Q S m (n + 1) l a w := by
  subst hd
  exact Late.first hi hm (Region.noSelect_spec hs) hQ n l a w (Region.free_spec hi hf) (by simpa using hr) (Or.inl ⟨hw, hv⟩) hS h
/-- each of these comes up next -/
def LateAll (P : Program) (md : Region.Mode) (ops : Array Oper) (Q : Exit → Act → World → Prop) (S : World → Prop) (m n : Nat) (l : Array Bool) (a : Act) (w : World) (rs : List Nat) : Prop :=
  ∀ i ∈ rs, wpOp P ops Q i (fun a' w' => (i ≠ m → S w') ∧ Late P md ops Q S m n (l.setIfInBounds i true) a' w') a w
theorem LateAll.nil {n : Nat} {l : Array Bool} {a : Act} {w : World} : LateAll P md ops Q S m n l a w [] := fun _ h => by cases h
theorem LateAll.cons {n : Nat} {l : Array Bool} {a : Act} {w : World} {i : Nat} {o : Oper} {rs : List Nat} (ho : ops[i]? = some o)
    (h : ∀ K' : Act → World → Prop, Shut (∀ a w, S w → (S w → Late P md ops Q S m n (l.setIfInBounds i true) a w) → K' a w) → if Region.wanted o (yielded ops a.tmps) = true then Oper.wp P o a w K' Q else K' (a.put o.dst undef) w)
    (hs : LateAll P md ops Q S m n l a w rs) : LateAll P md ops Q S m n l a w (i :: rs) := fun j hj => by
  rcases List.mem_cons.1 hj with rfl | hj
  · exact wpOp_step ho (fun K' hK => h K' (fun a w hS hW => hK a w ⟨fun _ => hS, hW hS⟩))
  · exact hs j hj
theorem LateAll.last {n : Nat} {l : Array Bool} {a : Act} {w : World} {o : Oper} (ho : ops[m]? = some o)
    (h : ∀ K' : Act → World → Prop, Shut (∀ a w, Late P md ops Q S m n (l.setIfInBounds m true) a w → K' a w) → if Region.wanted o (yielded ops a.tmps) = true then Oper.wp P o a w K' Q else K' (a.put o.dst undef) w) : LateAll P md ops Q S m n l a w [m] := fun j hj => by
  obtain rfl : j = m := by simpa using hj
  exact wpOp_step ho (fun K' hK => h K' (fun a w hW => hK a w ⟨fun c => absurd rfl c, hW⟩))
theorem Late.ready {rs : List Nat} {n : Nat} {l : Array Bool} {a : Act} {w : World} (hr : Region.ready md ops l = rs) (hne : rs ≠ []) (h : LateAll P md ops Q S m n l a w rs) : Late P md ops Q S m (n + 1) l a w :=
  ⟨fun h0 => absurd (hr ▸ h0) hne, hr ▸ h⟩
theorem Late.region {id : Nat} {a : Act} {w : World} (m : Nat) (hm : P.follows .mixedOrders = true) (hS : S w.drew) (h : S w.drew → Late P .any ops Q S m ops.size (Array.replicate ops.size false) a w.drew) : (Code.region id ops true).wp P Q a w :=
  wp_region_any hm (Late.any _ _ _ _ (h hS))
end
end Go.Proofs.YtgjhmbbbkkidlaaGreatDoor.kit
