/-
  The starter's regions that make workers and wait for them.
  Conditions: none.
-/
import Derived.Test.YtgjhmbbbkkidlaaGreatDoorXgh
import Derived.Test.YtgjhmbbbkkidlaaGreatDoorXkm
namespace Go.Proofs.YtgjhmbbbkkidlaaGreatDoor.hash
open Go.ChangeShapes Go.WideShapes Go.ChangeAt Go.RowKit
open Go.Conc
open Go.Proofs.YtgjhmbbbkkidlaaGreatDoor.sim (MR mr_read mr_pure mr_new mr_store main_spawn main_recv main_recv2 main_send Base View Sees Dsc Cls ext ext_eq ext_ne Fresh less C0 At Held)
section
variable {J : Nat} {D : Nat → Dsc} {F : View} {cl0 cl1 : Nat → Cls} {Goal : Machine → Trace → Prop} {k : List Item} {T : Array Value} {id : Nat} {ops : Array Oper} {o0 o1 o2 : Oper} {s1 s2 s3 : Nat} {ats : Array TypeId} {lb cb ci : Nat}
theorem getD_of {T : Array Value} {i : Nat} {v : Value} (h : T[i]? = some v) : T.getD i undef = v := by rw [Array.getD_eq_getD_getElem?, h]; rfl
theorem set_low {T : Array Value} {s i : Nat} (v : Value) (h : i ≠ s) : (T.setIfInBounds s v)[i]? = T[i]? := Array.getElem?_setIfInBounds_ne (Ne.symm h)
theorem set_at {T : Array Value} {s : Nat} (v : Value) (h : s < T.size) : (T.setIfInBounds s v)[s]? = some v := by rw [Array.getElem?_setIfInBounds_self_of_lt h]
theorem m_move {b : Frame} {cs : List Frame} {rest : List Nat} {i : Nat} {o : Oper} {x : Operand} (ho : ops[i]? = some o) (hp : o.op = .move x ∨ o.op = .assign x) (hg : o.guard = none) (hk : b.kind ≠ .early)
    (g : M J D F (G (b.at ((Act.mk T []).put o.dst ((Act.mk T []).eval x)) (.inRegion ops rest :: k)) cs) cl0 Goal) : M J D F (G (b.at ⟨T, []⟩ (.inRegion ops (i :: rest) :: k)) cs) cl0 Goal := by
  refine m_op ((Act.mk T []).eval x) ho (by simp [Region.wanted, hg]) hk (fun w => ?_) (fun w e he => ?_) g
  · unfold execOp
    rcases hp with hp | hp <;> rw [hp] <;> rfl
  · unfold execOp at he
    rcases hp with hp | hp <;> rw [hp] at he <;> simp at he
theorem gen_reg (hT : T.size = 124) (h14 : T[14]? = some (.pointer (some ⟨lb, 0, none⟩))) (e0 : ops[0]? = some o0) (e1 : ops[1]? = some o1) (es : ops.size = 2) (p0 : o0.op = .move (.tmp 14)) (d0 : o0.dst = some s1) (g0 : o0.guard = none)
    (p1 : o1.op = .call { callee := .value (.func 12), args := #[.tmp s1, .const (.int .i64 (ci : Int))], argTypes := ats }) (g1 : o1.guard = none) (d1 : o1.dst = some s2) (hs1 : 17 < s1 ∧ s1 < 124) (hs2 : 17 < s2)
    (hci : ci < 2) {lc cc : Array Value} {lt : TypeId} {lf : Nat × Nat} (hL : F lb = some (.cells lc lt lf)) (h17 : lc[17]? = some (.slice (some ⟨cb, 0, none⟩) 2 2)) (hC : F cb = some (.cells cc 146 (0, 0))) (hcc : cc.size = 44)
    (hro : ∀ k, 1 ≤ k → k ≤ J → ¬ ((D k).RO ⟨cb, ci * 22 + 8, none⟩ ∧ (D k).RB cb)) {R : Nat → Nat → Dsc → Prop}
    (hf : ∀ n m, F n = none → F m = none → n ≠ m → n ≠ cb → m ≠ cb → (∀ k, 1 ≤ k → k ≤ J → (D k).B ≤ n ∧ (∀ b, (D k).RB b → b < n) ∧ (D k).c < n) → ∀ w, Sees (V3 F cb ci n m cc) w → ∃ d s, Fresh Tryz.prog (V3 F cb ci n m cc) w d s (born Tryz.prog (dcall 18 (args18 lb cb (ci * 22) n))) ∧ R n m d)
    (g : ∀ n m d T2, F n = none → F m = none → n ≠ m → n ≠ cb → m ≠ cb → (∀ k, 1 ≤ k → k ≤ J → (D k).c ≠ m) → R n m d → T2.size = 124 → (∀ i, i ≤ 17 → T2[i]? = T[i]?) → MR Tryz.prog (J + 1) (Go.ConcN.upd D (J + 1) d) (less (V3 F cb ci n m cc) d.c) (G ((base 3).at ⟨T2, []⟩ k) []) C0 Goal) :
    M J D F (G ((base 3).at ⟨T, []⟩ (.code (.region id ops false) :: k)) []) C0 Goal := by
  refine m_c rfl (fun w => stepG_region) ?_
  rw [es]
  show M J D F (G ((base 3).at ⟨T, []⟩ (.inRegion ops [0, 1] :: k)) []) C0 Goal
  refine m_move e0 (.inl p0) g0 (by decide) ?_
  have ev : (Act.mk T []).eval (.tmp 14) = .pointer (some ⟨lb, 0, none⟩) := getD_of h14
  rw [ev, d0]
  show M J D F (G ((base 3).at ⟨T.setIfInBounds s1 (.pointer (some ⟨lb, 0, none⟩)), []⟩ (.inRegion ops [1] :: k)) []) C0 Goal
  refine m_call (c := body12) e1 (by simp [Region.wanted, g1]) (by decide) p1 Tryz.func12 (by kernel_rfl) rfl ?_
  have e2 : (Act.mk (T.setIfInBounds s1 (.pointer (some ⟨lb, 0, none⟩))) []).eval (.tmp s1) = .pointer (some ⟨lb, 0, none⟩) := getD_of (set_at _ (by rw [hT]; exact hs1.2))
  simp only [List.map_toArray, List.map_cons, List.map_nil, e2]
  simp only [Act.eval, Tryz.ntmps12, List.size_toArray, List.length_cons, List.length_nil, Nat.reduceAdd, Nat.reduceSub, Array.replicate_succ, Array.replicate_zero, List.push_toArray, List.append_toArray, List.nil_append, List.cons_append]
  refine gen_mr hci hL h17 hC hcc hro hf fun n m d q1 q2 q3 q4 q5 q6 hR => ?_
  rw [Frame.finish_at, e1]
  show MR Tryz.prog (J + 1) _ _ (G ((base 3).at ((Act.mk _ []).put o1.dst (.tuple #[])) (.inRegion ops [] :: k)) []) C0 Goal
  rw [d1]
  refine mr_pure sim.base rfl (fun w => stepG_region_end) ?_
  refine g n m d _ q1 q2 q3 q4 q5 q6 hR ?_ fun i hi => ?_
  · simp [hT]
  · show ((T.setIfInBounds s1 _).setIfInBounds s2 _)[i]? = T[i]?
    rw [set_low _ (by omega), set_low _ (by omega)]
theorem wait_reg (hT : T.size = 124) (h14 : T[14]? = some (.pointer (some ⟨lb, 0, none⟩))) (e0 : ops[0]? = some o0) (e1 : ops[1]? = some o1) (e2 : ops[2]? = some o2) (es : ops.size = 3) (p0 : o0.op = .move (.tmp 14)) (d0 : o0.dst = some s1) (g0 : o0.guard = none)
    (p1 : o1.op = .call { callee := .value (.func 13), args := #[.tmp s1, .const (.int .i64 (ci : Int))], argTypes := ats }) (g1 : o1.guard = none) (d1 : o1.dst = some s2) (p2 : o2.op = .assign (.tmp s2)) (d2 : o2.dst = some s3) (g2 : o2.guard = none) (hs1 : 17 < s1 ∧ s1 < 124) (hs2 : 17 < s2 ∧ s2 < 124) (hs3 : s3 < 18)
    {n m : Nat} (hci : ci < 2) {lc cc : Array Value} {lt ct : TypeId} {lf cf : Nat × Nat} (hL : F lb = some (.cells lc lt lf)) (h17 : lc[17]? = some (.slice (some ⟨cb, 0, none⟩) 2 2)) (hC : F cb = some (.cells cc ct cf)) (h8 : cc[ci * 22 + 8]? = some (.func (.func 17) #[] #[.pointer (some ⟨m, 0, none⟩)]))
    (hM : F m = some (.cells #[.chan (some n)] 149 (0, 0))) {TT : Value → View → Prop} (hR : RecvOk J D F cl0 cl1 n TT) (hTT : ∀ val F2, TT val F2 → F2 m = some (.cells #[.chan (some n)] 149 (0, 0)) ∧ ∃ s r tm, F2 n = some (.chan 1 #[] false s r tm))
    (g : ∀ val F2 s r tm T2, TT val F2 → F2 n = some (.chan 1 #[] false s r tm) → T2.size = 124 → T2[s3]? = some val → (∀ i, i ≤ 17 → i ≠ s3 → T2[i]? = T[i]?) → M J D (ext F2 n (.chan 1 #[val] false (s + 1) r tm)) (G ((base 3).at ⟨T2, []⟩ k) []) cl1 Goal) :
    M J D F (G ((base 3).at ⟨T, []⟩ (.code (.region id ops false) :: k)) []) cl0 Goal := by
  refine m_c rfl (fun w => stepG_region) ?_
  rw [es]
  show M J D F (G ((base 3).at ⟨T, []⟩ (.inRegion ops [0, 1, 2] :: k)) []) cl0 Goal
  refine m_move e0 (.inl p0) g0 (by decide) ?_
  have ev : (Act.mk T []).eval (.tmp 14) = .pointer (some ⟨lb, 0, none⟩) := getD_of h14
  rw [ev, d0]
  show M J D F (G ((base 3).at ⟨T.setIfInBounds s1 (.pointer (some ⟨lb, 0, none⟩)), []⟩ (.inRegion ops [1, 2] :: k)) []) cl0 Goal
  refine m_call (c := body13) e1 (by simp [Region.wanted, g1]) (by decide) p1 Tryz.func13 (by kernel_rfl) rfl ?_
  have ev2 : (Act.mk (T.setIfInBounds s1 (.pointer (some ⟨lb, 0, none⟩))) []).eval (.tmp s1) = .pointer (some ⟨lb, 0, none⟩) := getD_of (set_at _ (by rw [hT]; exact hs1.2))
  simp only [List.map_toArray, List.map_cons, List.map_nil, ev2]
  simp only [Act.eval, Tryz.ntmps13, List.size_toArray, List.length_cons, List.length_nil, Nat.reduceAdd, Nat.reduceSub, Array.replicate_succ, Array.replicate_zero, List.push_toArray, List.append_toArray, List.nil_append, List.cons_append]
  refine wait_mr hci hL h17 hC h8 hM hR hTT fun val F2 s r tm hv hch => ?_
  rw [Frame.finish_at, e1]
  show M J D _ (G ((base 3).at ((Act.mk _ []).put o1.dst val) (.inRegion ops [2] :: k)) []) cl1 Goal
  rw [d1]
  show M J D _ (G ((base 3).at ⟨(T.setIfInBounds s1 (.pointer (some ⟨lb, 0, none⟩))).setIfInBounds s2 val, []⟩ (.inRegion ops [2] :: k)) []) cl1 Goal
  refine m_move e2 (.inr p2) g2 (by decide) ?_
  have ev3 : (Act.mk ((T.setIfInBounds s1 (.pointer (some ⟨lb, 0, none⟩))).setIfInBounds s2 val) []).eval (.tmp s2) = val := getD_of (set_at _ (by simp [hT]; exact hs2.2))
  rw [ev3, d2]
  refine m_c rfl (fun w => stepG_region_end) ?_
  refine g val F2 s r tm _ hv hch ?_ ?_ fun i hi hne => ?_
  · simp [hT]
  · exact set_at _ (by simp [hT]; omega)
  · show (((T.setIfInBounds s1 _).setIfInBounds s2 _).setIfInBounds s3 _)[i]? = T[i]?
    rw [set_low _ hne, set_low _ (by omega), set_low _ (by omega)]
end
end Go.Proofs.YtgjhmbbbkkidlaaGreatDoor.hash
