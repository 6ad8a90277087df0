/-
  The company: the starter's own operations; it makes a worker.
  Conditions: what it reads is there.
-/
import Derived.Conc.TokenWords
import Derived.Test.YtgjhmbbbkkidlaaGreatDoorXf
import Derived.Test.YtgjhmbbbkkidlaaGreatDoorWef
namespace Go.Proofs.YtgjhmbbbkkidlaaGreatDoor.hash
open Go.ChangeShapes Go.WideShapes Go.ChangeAt Go.RowKit
open Go.Conc
open Go.Proofs.YtgjhmbbbkkidlaaGreatDoor.sim (MR mr_read mr_pure mr_new mr_store main_spawn main_recv main_recv2 main_send Base View Sees Dsc Cls ext ext_eq ext_ne Fresh less C0 At Reach Held)
section
variable {J : Nat} {D : Nat → Dsc} {F : View} {cl0 : Nat → Cls} {Goal : Machine → Trace → Prop} {b : Frame} {a : Act} {k : List Item} {cs : List Frame} {ops : Array Oper} {i : Nat} {rest : List Nat} {o : Oper}
abbrev M (J : Nat) (D : Nat → Dsc) (F : View) (a : Goroutine) (cl0 : Nat → Cls) (Goal : Machine → Trace → Prop) : Prop := MR Tryz.prog J D F a cl0 Goal
theorem m_op (v : Value) (ho : ops[i]? = some o) (hw : Region.wanted o (yielded ops a.tmps) = true) (hk : b.kind ≠ .early) (hr : ∀ w, (execOp a.eval o).run Tryz.prog w = .ok (.value v) w)
    (he : ∀ w e, e ∈ (execOp a.eval o).events Tryz.prog w #[] → False) (g : M J D F (G (b.at (a.put o.dst v) (.inRegion ops rest :: k)) cs) cl0 Goal) : M J D F (G (b.at a (.inRegion ops (i :: rest) :: k)) cs) cl0 Goal :=
  mr_read sim.base rfl (fun w _ => ⟨_, stepG_value ho hw hk (hr w), fun e h => (he w e (mem_listed h)).elim⟩) g
theorem m_load {x : Addr} (v : Value) (ho : ops[i]? = some o) (hw : Region.wanted o (yielded ops a.tmps) = true) (hk : b.kind ≠ .early) (hr : ∀ w, Sees F w → (execOp a.eval o).run Tryz.prog w = .ok (.value v) w)
    (hx : (F x.block).isSome = true) (he : ∀ w, Sees F w → ∀ e, e ∈ (execOp a.eval o).events Tryz.prog w #[] → e = ⟨.cell x, false, false⟩) (g : M J D F (G (b.at (a.put o.dst v) (.inRegion ops rest :: k)) cs) cl0 Goal) : M J D F (G (b.at a (.inRegion ops (i :: rest) :: k)) cs) cl0 Goal :=
  mr_read sim.base rfl (fun w hS => ⟨_, stepG_value ho hw hk (hr w hS), fun e h => by
    have := he w hS e (mem_listed h)
    subst this
    exact ⟨rfl, rfl, x, rfl, hx⟩⟩) g
theorem m_c {a a' : Goroutine} (ha : a.status = .running) (h : ∀ w, stepG Tryz.prog true a w = .go a' w #[]) (g : M J D F a' cl0 Goal) : M J D F a cl0 Goal := mr_pure sim.base ha h g
end
section
variable {J : Nat} {D : Nat → Dsc} {F : View} {cl0 : Nat → Cls} {Goal : Machine → Trace → Prop} {cs : List Frame}
theorem sees_cell {w : World} (h : Sees F w) {b : Nat} {c : Array Value} {e : TypeId} {fr : Nat × Nat} (hF : F b = some (.cells c e fr)) {o : Nat} {v : Value} (hv : c[o]? = some v) : w.cell? ⟨b, o, none⟩ = some v := by
  unfold World.cell?
  dsimp only
  rw [h b _ hF]
  exact hv
theorem m_store {b : Frame} {a : Act} {k : List Item} {ops : Array Oper} {i : Nat} {rest : List Nat} {o : Oper} {x off : Nat} {c : Array Value} {e : TypeId} (v : Value) (hF : F x = some (.cells c e (0, 0))) (hoff : off < c.size) (hro : ∀ k, 1 ≤ k → k ≤ J → ¬ ((D k).RO ⟨x, off, none⟩ ∧ (D k).RB x))
    (ho : ops[i]? = some o) (hw : Region.wanted o (yielded ops a.tmps) = true) (hk : b.kind ≠ .early) (hr : ∀ w, w.cell? ⟨x, off, none⟩ = some (c.getD off undef) → w.frozen? ⟨x, off, none⟩ = false → (execOp a.eval o).run Tryz.prog w = .ok .skip (w.setCell ⟨x, off, none⟩ v))
    (he : ∀ w, w.cell? ⟨x, off, none⟩ = some (c.getD off undef) → w.frozen? ⟨x, off, none⟩ = false → ∀ e, e ∈ (execOp a.eval o).events Tryz.prog w #[] → e = ⟨.cell ⟨x, off, none⟩, true, false⟩) (g : M J D (ext F x (.cells (c.setIfInBounds off v) e (0, 0))) (G (b.at (a.put o.dst undef) (.inRegion ops rest :: k)) cs) cl0 Goal) : M J D F (G (b.at a (.inRegion ops (i :: rest) :: k)) cs) cl0 Goal := by
  have hc : ∀ w, Sees F w → w.cell? ⟨x, off, none⟩ = some (c.getD off undef) ∧ w.frozen? ⟨x, off, none⟩ = false := fun w hS => by
    refine ⟨sees_cell hS hF (by rw [Array.getElem?_eq_getElem hoff, Array.getD_eq_getD_getElem?, Array.getElem?_eq_getElem hoff]; rfl), ?_⟩
    unfold World.frozen?
    dsimp only
    rw [hS x _ hF]
    simp
  refine mr_store sim.base rfl hF hoff hro (fun w hS => ⟨_, stepG_none ho hw hk (hr w (hc w hS).1 (hc w hS).2), fun y hy => ?_⟩) g
  have := he w (hc w hS).1 (hc w hS).2 y (mem_listed hy)
  subst this
  exact ⟨rfl, rfl⟩
theorem m_new {b : Frame} {a : Act} {k : List Item} {ops : Array Oper} {i : Nat} {rest : List Nat} {o : Oper} (ob : Obj) (v : Nat → Value)
    (ho : ops[i]? = some o) (hw : Region.wanted o (yielded ops a.tmps) = true) (hk : b.kind ≠ .early) (hr : ∀ w, (execOp a.eval o).run Tryz.prog w = .ok (.value (v w.heap.size)) (w.alloc ob)) (he : ∀ w e, e ∈ (execOp a.eval o).events Tryz.prog w #[] → False)
    (g : ∀ n, F n = none → (∀ b, (F b).isSome = true → b < n) → (∀ k, 1 ≤ k → k ≤ J → (D k).B ≤ n ∧ (∀ b, (D k).RB b → b < n) ∧ (D k).c < n) → M J D (ext F n ob) (G (b.at (a.put o.dst (v n)) (.inRegion ops rest :: k)) cs) cl0 Goal) : M J D F (G (b.at a (.inRegion ops (i :: rest) :: k)) cs) cl0 Goal := by
  refine mr_new sim.base rfl (o := ob) (a2 := fun n => G (b.at (a.put o.dst (v n)) (.inRegion ops rest :: k)) cs) (fun w _ => ?_) g
  have h := stepG_value (P := Tryz.prog) (main := true) (b := b) (k := k) (cs := cs) (rest := rest) ho hw hk (hr w)
  have e : listed Tryz.prog b.fn a o w = #[] := by
    exact Array.eq_empty_iff_forall_not_mem.2 fun y hy => he w y (mem_listed hy)
  rw [h, e]
theorem m_call {b : Frame} {a : Act} {k : List Item} {ops : Array Oper} {i : Nat} {rest : List Nat} {o : Oper} {f : FuncId} {fn : Func} {c : Code} {args : Array Operand} {ats : Array TypeId}
    (ho : ops[i]? = some o) (hw : Region.wanted o (yielded ops a.tmps) = true) (hk : b.kind ≠ .early) (hop : o.op = .call { callee := .value (.func f), args, argTypes := ats })
    (hf : Tryz.prog.funcs[f]? = some fn) (hname : (fn.name == "runtime.NumGoroutine") = false) (hb : fn.body = some c)
    (g : M J D F (G ((base f).at { tmps := args.map a.eval ++ Array.replicate (fn.ntmps - (args.map a.eval).size) undef, defers := [] } [.code c]) (b.at a (.inRegion ops (i :: rest) :: k) :: cs)) cl0 Goal) : M J D F (G (b.at a (.inRegion ops (i :: rest) :: k)) cs) cl0 Goal := by
  have hb' : fn.body.isNone = false := by rw [hb]; rfl
  refine mr_pure sim.base rfl (fun w => ?_) g
  rw [stepG_enter ho hw hk (run_call_body hop hf hname hb'), enter_at _ hf hb]
  have : listed Tryz.prog b.fn a o w = #[] := by unfold listed; rw [events_call_body hop hf hname hb']; exact seen_none _ _
  rw [this]
theorem m_spawn {b : Frame} {a : Act} {k : List Item} {ops : Array Oper} {i : Nat} {rest : List Nat} {o : Oper} {args : Array Value} {R : Dsc → Prop}
    (ho : ops[i]? = some o) (hw : Region.wanted o (yielded ops a.tmps) = true) (hk : b.kind ≠ .early) (hr : ∀ w, (execOp a.eval o).run Tryz.prog w = .ok (.spawn (dcall 18 args)) w) (he : ∀ w e, e ∈ (execOp a.eval o).events Tryz.prog w #[] → False)
    (hf : ∀ w, Sees F w → ∃ d s, Fresh Tryz.prog F w d s (born Tryz.prog (dcall 18 args)) ∧ R d) (g : ∀ d, R d → MR Tryz.prog (J + 1) (Go.ConcN.upd D (J + 1) d) (less F d.c) (G (b.at (a.put o.dst undef) (.inRegion ops rest :: k)) cs) C0 Goal) :
    M J D F (G (b.at a (.inRegion ops (i :: rest) :: k)) cs) C0 Goal := by
  intro mm tt hat
  refine (main_spawn sim.base rfl (Post := fun a' d => a' = G (b.at (a.put o.dst undef) (.inRegion ops rest :: k)) cs ∧ R d) (fun w hS => ?_) hat).trans fun m' t' hm' => ?_
  rotate_left
  · obtain ⟨_, d, ⟨rfl, hR⟩, h2⟩ := hm'
    exact g d hR m' t' h2
  · obtain ⟨d, s, hfr, hR⟩ := hf w hS
    exact ⟨_, _, d, s, _, stepG_spawn (f := .func 18) (c := #[]) ho hw hk (hr w) rfl, fun e h => (he w e (mem_listed h)).elim, hfr, rfl, hR⟩
theorem m_leave0 {b : Frame} {a : Act} {todo : List Item} {fn : Func} {c : Frame} (hn : b.kind = .normal) (hd : a.defers = []) (hf : Tryz.prog.funcs[b.fn]? = some fn) (hr : fn.results = #[]) (g : M J D F (G (c.finish (.tuple #[])) cs) cl0 Goal) : M J D F (G { b.at a todo with mode := .returning } (c :: cs)) cl0 Goal :=
  mr_pure sim.base rfl (fun w => stepG_leave hn hd hf (results_none hr _ Tryz.prog w) (events_results_none hr _ _)) g
theorem m_leave1 {b : Frame} {a : Act} {todo : List Item} {fn : Func} {c : Frame} {t : Tmp} (hn : b.kind = .normal) (hd : a.defers = []) (hf : Tryz.prog.funcs[b.fn]? = some fn) (hr : fn.results = #[.tmp t]) (g : M J D F (G (c.finish (a.tmps.getD t undef)) cs) cl0 Goal) : M J D F (G { b.at a todo with mode := .returning } (c :: cs)) cl0 Goal :=
  mr_pure sim.base rfl (fun w => stepG_leave hn hd hf (results_tmp hr _ Tryz.prog w) (events_results_tmp hr _ _)) g
theorem idx_run (cb ci : Nat) (hci : ci < 2) (w : World) : (Instr.indexAt 104 (.slice (some ⟨cb, 0, none⟩) 2 2) (.int .i64 (ci : Int))).run Tryz.prog w = .ok (.pointer (some ⟨cb, ci * 22, none⟩)) w := by
  have h1 : (ci : Int) < 2 := by omega
  have h2 : 0 ≤ (ci : Int) := by omega
  go_simp
theorem idx_ev (cb ci : Nat) (hci : ci < 2) (w : World) (es : Array Event) : (Instr.indexAt 104 (.slice (some ⟨cb, 0, none⟩) 2 2) (.int .i64 (ci : Int))).events Tryz.prog w es = es :=
  events_indexAt_slice _ _ _ _ _ _ (by kernel_rfl) ⟨by omega, by omega⟩
theorem bytes24 : ∃ i, Tryz.prog.info? 24 = some i ∧ i.bytes = 24 := by
  have h : (Tryz.prog.info? 24).map (·.bytes) = some 24 := by kernel_rfl
  obtain ⟨i, hi, hb⟩ := Option.map_eq_some_iff.1 h
  exact ⟨i, hi, hb⟩
theorem mk_run (w : World) : (Instr.makeChan 149 (.int .i64 1)).run Tryz.prog w = .ok (.chan (some w.heap.size)) (w.alloc (.chan 1 #[] false 0 0 false)) := by
  obtain ⟨i, hi, hb⟩ := bytes24
  simpa using run_makeChan (P := Tryz.prog) (w := w) Tryz.underlying149 hi .i64 1 (by omega) (by rw [hb]; omega)
theorem mk_ev (w : World) (es : Array Event) : (Instr.makeChan 149 (.int .i64 1)).events Tryz.prog w es = es := by
  obtain ⟨i, hi, hb⟩ := bytes24
  simpa using events_makeChan (P := Tryz.prog) (w := w) Tryz.underlying149 hi .i64 1 (by omega) (by rw [hb]; omega) es
noncomputable def body12 : Code := Tryz.f12.body.getD .skip
theorem st_func (w : World) (a : Addr) (fn : Fn) (x y : Array Value) : (store a (.func fn x y)).run Tryz.prog w = stored Tryz.prog w a (.func fn x y) .plain := run_store Tryz.prog w a _ .plain rfl
theorem st_func_ev (w : World) (es : Array Event) (a : Addr) (fn : Fn) (x y : Array Value) : (store a (.func fn x y)).events Tryz.prog w es = storedEv Tryz.prog w es a (.func fn x y) .plain := events_store Tryz.prog w es a _ .plain rfl
theorem ext_ext (F : View) (m : Nat) (o o' : Obj) : ext (ext F m o) m o' = ext F m o' := by
  funext x
  unfold ext
  split <;> rfl
/-- the view when the chunk's channel, its variable and its waiting function are made -/
def V3 (F : View) (cb ci n m : Nat) (cc : Array Value) : View := ext (ext (ext F n (.chan 1 #[] false 0 0 false)) m (.cells #[.chan (some n)] 149 (0, 0))) cb (.cells (cc.setIfInBounds (ci * 22 + 8) (.func (.func 17) #[] #[.pointer (some ⟨m, 0, none⟩)])) 146 (0, 0))
set_option maxRecDepth 100000 in
set_option maxHeartbeats 4000000 in
theorem gen_mr {lb cb ci : Nat} (hci : ci < 2) {lc cc : Array Value} {lt : TypeId} {lf : Nat × Nat} (hL : F lb = some (.cells lc lt lf)) (h17 : lc[17]? = some (.slice (some ⟨cb, 0, none⟩) 2 2)) (hC : F cb = some (.cells cc 146 (0, 0))) (hcc : cc.size = 44) {c0 : Frame}
    (hro : ∀ k, 1 ≤ k → k ≤ J → ¬ ((D k).RO ⟨cb, ci * 22 + 8, none⟩ ∧ (D k).RB cb)) {R : Nat → Nat → Dsc → Prop}
    (hf : ∀ n m, F n = none → F m = none → n ≠ m → n ≠ cb → m ≠ cb → (∀ k, 1 ≤ k → k ≤ J → (D k).B ≤ n ∧ (∀ b, (D k).RB b → b < n) ∧ (D k).c < n) → ∀ w, Sees (V3 F cb ci n m cc) w → ∃ d s, Fresh Tryz.prog (V3 F cb ci n m cc) w d s (born Tryz.prog (dcall 18 (args18 lb cb (ci * 22) n))) ∧ R n m d)
    (g : ∀ n m d, F n = none → F m = none → n ≠ m → n ≠ cb → m ≠ cb → (∀ k, 1 ≤ k → k ≤ J → (D k).c ≠ m) → R n m d → MR Tryz.prog (J + 1) (Go.ConcN.upd D (J + 1) d) (less (V3 F cb ci n m cc) d.c) (G (c0.finish (.tuple #[])) cs) C0 Goal) :
    M J D F (G ((base 12).at ⟨#[.pointer (some ⟨lb, 0, none⟩), .int .i64 (ci : Int), undef, undef, undef, undef, undef, undef, undef, undef, undef, undef], []⟩ [.code body12]) (c0 :: cs)) C0 Goal := by
  simp only [body12, Tryz.f12, Option.getD_some]
  refine m_c rfl (fun w => stepG_region) ?_
  simp only [List.size_toArray, List.length_cons, List.length_nil, Nat.reduceAdd, Nat.zero_add, List.range, List.range.loop]
  refine m_op (.pointer (some ⟨lb, 0, none⟩)) rfl rfl (by decide) (fun w => by go_simp) (fun w e he => by simp [go_sem] at he) ?_
  walk_nrm
  refine m_op (.pointer (some ⟨lb, 0, none⟩)) rfl rfl (by decide) (fun w => by go_simp) (fun w e he => by simp [go_sem] at he) ?_
  walk_nrm
  refine m_op (.pointer (some ⟨lb, 0, none⟩)) rfl rfl (by decide) (fun w => by go_simp) (fun w e he => by simp [go_sem] at he) ?_
  walk_nrm
  refine m_op (.pointer (some ⟨lb, 17, none⟩)) rfl rfl (by decide) (fun w => by go_simp) (fun w e he => by simp [go_sem] at he) ?_
  walk_nrm
  refine m_load (x := ⟨lb, 17, none⟩) (.slice (some ⟨cb, 0, none⟩) 2 2) rfl rfl (by decide) (fun w hS => by have hc := sees_cell hS hL h17; go_simp) (by rw [hL]; rfl) (fun w hS e he => by have hc := sees_cell hS hL h17; simp [go_sem, *] at he; exact he) ?_
  walk_nrm
  refine m_op (.int .i64 (ci : Int)) rfl rfl (by decide) (fun w => by go_simp) (fun w e he => by simp [go_sem] at he) ?_
  walk_nrm
  refine m_op (.pointer (some ⟨cb, ci * 22, none⟩)) rfl rfl (by decide) (fun w => by have hi := idx_run cb ci hci; go_simp) (fun w e he => by have hi := idx_ev cb ci hci; simp [go_sem, hi] at he) ?_
  walk_nrm
  refine m_call rfl rfl (by decide) rfl Tryz.func16 (by kernel_rfl) rfl ?_
  walk_nrm
  simp only [Tryz.ntmps16, List.size_toArray, List.length_cons, List.length_nil, Nat.reduceAdd, Nat.reduceSub, Array.replicate_succ, Array.replicate_zero, List.push_toArray, List.append_toArray, List.nil_append, List.cons_append]
  refine m_c rfl (fun w => stepG_seq) ?_
  refine m_c rfl (fun w => stepG_region) ?_
  simp only [List.size_toArray, List.length_cons, List.length_nil, Nat.reduceAdd, Nat.zero_add, List.range, List.range.loop]
  refine m_new (.chan 1 #[] false 0 0 false) (fun n => .chan (some n)) rfl rfl (by decide) (fun w => by have h := mk_run; go_simp) (fun w e he => by have h := mk_ev; simp [go_sem, h] at he) fun n hn hlt hB => ?_
  walk_nrm
  have hnb : n ≠ cb := by
    rintro rfl
    rw [hn] at hC
    cases hC
  refine m_new (.cells #[.chan none] 149 (0, 0)) (fun m => .pointer (some ⟨m, 0, none⟩)) rfl rfl (by decide) (fun w => by go_simp) (fun w e he => by simp [go_sem] at he) fun m hm hlt2 hB2 => ?_
  walk_nrm
  have hmn : n ≠ m := by
    rintro rfl
    rw [ext_eq] at hm
    cases hm
  have hm0 : F m = none := by rw [ext_ne _ _ _ (Ne.symm hmn)] at hm; exact hm
  have hmb : m ≠ cb := by
    rintro rfl
    rw [hm0] at hC
    cases hC
  refine m_store (x := m) (off := 0) (.chan (some n)) (ext_eq _ _ _) (by decide) (fun k k1 kJ h => by have := (hB2 k k1 kJ).2.1 m h.2; omega) rfl rfl (by decide) (fun w hc hz => by simp at hc; go_simp) (fun w hc hz e he => by simp at hc; simp [go_sem, storedEv, *] at he; exact he) ?_
  walk_nrm
  rw [ext_ext]
  refine m_c rfl (fun w => stepG_region_end) ?_
  refine m_c rfl (fun w => stepG_seq) ?_
  refine m_c rfl (fun w => stepG_region) ?_
  simp only [List.size_toArray, List.length_cons, List.length_nil, Nat.reduceAdd, Nat.zero_add, List.range, List.range.loop]
  refine m_op (.pointer (some ⟨cb, ci * 22, none⟩)) rfl rfl (by decide) (fun w => by go_simp) (fun w e he => by simp [go_sem] at he) ?_
  walk_nrm
  refine m_op (.func (.func 17) #[] #[.pointer (some ⟨m, 0, none⟩)]) rfl rfl (by decide) (fun w => by go_simp) (fun w e he => by simp [go_sem, Instr.makeFunc] at he) ?_
  walk_nrm
  refine m_op (.pointer (some ⟨cb, ci * 22, none⟩)) rfl rfl (by decide) (fun w => by go_simp) (fun w e he => by simp [go_sem] at he) ?_
  walk_nrm
  refine m_op (.pointer (some ⟨cb, ci * 22 + 8, none⟩)) rfl rfl (by decide) (fun w => by go_simp) (fun w e he => by simp [go_sem] at he) ?_
  walk_nrm
  have hC2 : ext (ext F n (.chan 1 #[] false 0 0 false)) m (.cells #[.chan (some n)] 149 (0, 0)) cb = some (.cells cc 146 (0, 0)) := by rw [ext_ne _ _ _ (Ne.symm hmb), ext_ne _ _ _ (Ne.symm hnb)]; exact hC
  refine m_store (x := cb) (off := ci * 22 + 8) (.func (.func 17) #[] #[.pointer (some ⟨m, 0, none⟩)]) hC2 (by omega) hro rfl rfl (by decide) (fun w hc hz => by have hs := st_func; go_simp) (fun w hc hz e he => by have hs := st_func_ev; simp [go_sem, storedEv, *] at he; exact he) ?_
  walk_nrm
  change M J D (V3 F cb ci n m cc) _ C0 Goal
  have hS3 : ∀ w, Sees (V3 F cb ci n m cc) w → w.cell? ⟨m, 0, none⟩ = some (.chan (some n)) := fun w hS => sees_cell hS (F := V3 F cb ci n m cc) (b := m) (c := #[.chan (some n)]) (e := 149) (fr := (0, 0)) (by unfold V3; rw [ext_ne _ _ _ hmb, ext_eq]) rfl
  have hm3 : (V3 F cb ci n m cc m).isSome = true := by unfold V3; rw [ext_ne _ _ _ hmb, ext_eq]; rfl
  refine m_c rfl (fun w => stepG_region_end) ?_
  refine m_c rfl (fun w => stepG_region) ?_
  simp only [List.size_toArray, List.length_cons, List.length_nil, Nat.reduceAdd, Nat.zero_add, List.range, List.range.loop]
  refine m_op (.pointer (some ⟨lb, 0, none⟩)) rfl rfl (by decide) (fun w => by go_simp) (fun w e he => by simp [go_sem] at he) ?_
  walk_nrm
  refine m_op (.pointer (some ⟨cb, ci * 22, none⟩)) rfl rfl (by decide) (fun w => by go_simp) (fun w e he => by simp [go_sem] at he) ?_
  walk_nrm
  refine m_load (x := ⟨m, 0, none⟩) (.chan (some n)) rfl rfl (by decide) (fun w hS => by have hc := hS3 w hS; go_simp) hm3 (fun w hS e he => by have hc := hS3 w hS; simp [go_sem, *] at he; exact he) ?_
  walk_nrm
  refine m_spawn (args := args18 lb cb (ci * 22) n) (R := R n m) rfl rfl (by decide) (fun w => by simp [go_sem, execOp, Act.eval, dcall, args18]) (fun w e he => by simp [go_sem, execOp, Act.eval] at he) (fun w hS => hf n m hn hm0 hmn hnb hmb hB w hS) fun d hR => ?_
  walk_nrm
  refine m_c rfl (fun w => stepG_region_end) ?_
  refine m_c rfl (fun w => stepG_end) ?_
  refine m_leave0 rfl rfl Tryz.func16 rfl ?_
  rw [Frame.finish_at]
  walk_nrm
  refine m_c rfl (fun w => stepG_region_end) ?_
  refine m_c rfl (fun w => stepG_end) ?_
  refine m_leave0 rfl rfl Tryz.func12 rfl ?_
  exact g n m d hn hm0 hmn hnb hmb (fun k k1 kJ => by have := (hB2 k k1 kJ).2.2; omega) hR
end
end Go.Proofs.YtgjhmbbbkkidlaaGreatDoor.hash
/-
  The company: the starter waits for a chunk's hash.
  Conditions: what it reads is there.
-/
namespace Go.Proofs.YtgjhmbbbkkidlaaGreatDoor.hash
open Go.ChangeShapes Go.WideShapes Go.ChangeAt Go.RowKit
open Go.Conc
open Go.Proofs.YtgjhmbbbkkidlaaGreatDoor.sim (MR mr_read mr_pure mr_new mr_store main_spawn main_recv main_recv2 main_send Base View Sees Dsc Cls ext ext_eq ext_ne Fresh less C0 At Reach Held)
section
variable {J : Nat} {D : Nat → Dsc} {F : View} {cl0 cl1 : Nat → Cls} {Goal : Machine → Trace → Prop} {b : Frame} {a : Act} {k : List Item} {cs : List Frame} {ops : Array Oper} {i : Nat} {rest : List Nat} {o : Oper}
theorem m_enter {f : FuncId} {args : Array Value} {fn : Func} {c : Code} (ho : ops[i]? = some o) (hw : Region.wanted o (yielded ops a.tmps) = true) (hk : b.kind ≠ .early) (hr : ∀ w, (execOp a.eval o).run Tryz.prog w = .ok (.enter f args) w)
    (he : ∀ w e, e ∈ (execOp a.eval o).events Tryz.prog w #[] → False) (hf : Tryz.prog.funcs[f]? = some fn) (hb : fn.body = some c)
    (g : M J D F (G ((base f).at { tmps := args ++ Array.replicate (fn.ntmps - args.size) undef, defers := [] } [.code c]) (b.at a (.inRegion ops (i :: rest) :: k) :: cs)) cl0 Goal) : M J D F (G (b.at a (.inRegion ops (i :: rest) :: k)) cs) cl0 Goal := by
  refine mr_pure sim.base rfl (fun w => ?_) g
  rw [stepG_enter ho hw hk (hr w), enter_at _ hf hb]
  have : listed Tryz.prog b.fn a o w = #[] := Array.eq_empty_iff_forall_not_mem.2 fun y hy => he w y (mem_listed hy)
  rw [this]
theorem comm_of {cases : Array CommCase} {blocking : Bool} {shape : CommShape} (ho : ops[i]? = some o) (hw : Region.wanted o (yielded ops a.tmps) = true) (hk : b.kind ≠ .early) (hr : ∀ w, (execOp a.eval o).run Tryz.prog w = .ok (.comm cases blocking shape) w)
    (he : ∀ w e, e ∈ (execOp a.eval o).events Tryz.prog w #[] → False) (w : World) : stepG Tryz.prog true (G (b.at a (.inRegion ops (i :: rest) :: k)) cs) w = .comm (G (b.at a (.inRegion ops (i :: rest) :: k)) cs) cases blocking shape w #[] := by
  rw [stepG_comm ho hw hk (hr w)]
  have : listed Tryz.prog b.fn a o w = #[] := Array.eq_empty_iff_forall_not_mem.2 fun y hy => he w y (mem_listed hy)
  rw [this]
/-- a receive on the channel n is served; T: what comes, and the view behind it -/
def RecvOk (J : Nat) (D : Nat → Dsc) (F : View) (cl0 cl1 : Nat → Cls) (n : Nat) (T : Value → View → Prop) : Prop :=
  ∀ (a : Goroutine) (z : Value) (Goal : Machine → Trace → Prop), a.status = .running → (∀ w, Sees F w → stepG Tryz.prog true a w = .comm a #[rcase n z] true (.recv false) w #[]) → (∀ val F2, T val F2 → M J D F2 (Conc.served a val) cl1 Goal) → M J D F a cl0 Goal
theorem m_recv {n : Nat} {T : Value → View → Prop} (z : Value) (hR : RecvOk J D F cl0 cl1 n T) (ho : ops[i]? = some o) (hw : Region.wanted o (yielded ops a.tmps) = true) (hk : b.kind ≠ .early) (hr : ∀ w, (execOp a.eval o).run Tryz.prog w = .ok (.comm #[rcase n z] true (.recv false)) w)
    (he : ∀ w e, e ∈ (execOp a.eval o).events Tryz.prog w #[] → False) (g : ∀ val F2, T val F2 → M J D F2 (G (b.at (a.put o.dst val) (.inRegion ops rest :: k)) cs) cl1 Goal) : M J D F (G (b.at a (.inRegion ops (i :: rest) :: k)) cs) cl0 Goal := by
  refine hR _ z Goal rfl (fun w _ => comm_of ho hw hk hr he w) fun val F2 hT => ?_
  rw [served_fr, Frame.finish_at, ho]
  exact g val F2 hT
theorem m_send {n s r : Nat} {tm : Bool} {val : Value} (z : Value) (hF : F n = some (.chan 1 #[] false s r tm)) (ho : ops[i]? = some o) (hw : Region.wanted o (yielded ops a.tmps) = true) (hk : b.kind ≠ .early) (hr : ∀ w, (execOp a.eval o).run Tryz.prog w = .ok (.comm #[scase n val z] true .send) w)
    (he : ∀ w e, e ∈ (execOp a.eval o).events Tryz.prog w #[] → False) (g : M J D (ext F n (.chan 1 #[val] false (s + 1) r tm)) (G (b.at (a.put o.dst undef) (.inRegion ops rest :: k)) cs) cl0 Goal) : M J D F (G (b.at a (.inRegion ops (i :: rest) :: k)) cs) cl0 Goal := by
  intro mm tt hat
  refine (main_send sim.base rfl hF (fun w _ => comm_of ho hw hk hr he w) hat).trans fun m' t' h2 => ?_
  rw [served_fr, Frame.finish_at, ho] at h2
  exact g m' t' h2
theorem n17 : ¬ Tryz.f17.name = "runtime.NumGoroutine" := by
  have h : (Tryz.f17.name == "runtime.NumGoroutine") = false := by kernel_rfl
  simpa using h
theorem b17 : ¬ Tryz.f17.body = none := by simp [Tryz.f17]
noncomputable def body13 : Code := Tryz.f13.body.getD .skip
set_option maxRecDepth 100000 in
set_option maxHeartbeats 4000000 in
theorem wait_mr {lb cb ci n m : Nat} (hci : ci < 2) {lc cc : Array Value} {lt ct : TypeId} {lf cf : Nat × Nat} (hL : F lb = some (.cells lc lt lf)) (h17 : lc[17]? = some (.slice (some ⟨cb, 0, none⟩) 2 2)) (hC : F cb = some (.cells cc ct cf)) (h8 : cc[ci * 22 + 8]? = some (.func (.func 17) #[] #[.pointer (some ⟨m, 0, none⟩)]))
    (hM : F m = some (.cells #[.chan (some n)] 149 (0, 0))) {c0 : Frame} {T : Value → View → Prop} (hR : RecvOk J D F cl0 cl1 n T) (hT : ∀ val F2, T val F2 → F2 m = some (.cells #[.chan (some n)] 149 (0, 0)) ∧ ∃ s r tm, F2 n = some (.chan 1 #[] false s r tm))
    (g : ∀ val F2 s r tm, T val F2 → F2 n = some (.chan 1 #[] false s r tm) → M J D (ext F2 n (.chan 1 #[val] false (s + 1) r tm)) (G (c0.finish val) cs) cl1 Goal) :
    M J D F (G ((base 13).at ⟨#[.pointer (some ⟨lb, 0, none⟩), .int .i64 (ci : Int), undef, undef, undef, undef, undef, undef, undef, undef, undef, undef, undef, undef], []⟩ [.code body13]) (c0 :: cs)) cl0 Goal := by
  simp only [body13, Tryz.f13, Option.getD_some]
  refine m_c rfl (fun w => stepG_seq) ?_
  refine m_c rfl (fun w => stepG_region) ?_
  simp only [List.size_toArray, List.length_cons, List.length_nil, Nat.reduceAdd, Nat.zero_add, List.range, List.range.loop]
  refine m_op (.slice none 0 0) rfl rfl (by decide) (fun w => by go_simp) (fun w e he => by simp [go_sem] at he) ?_
  walk_nrm
  refine m_c rfl (fun w => stepG_region_end) ?_
  refine m_c rfl (fun w => stepG_seq) ?_
  refine m_c rfl (fun w => stepG_region) ?_
  simp only [List.size_toArray, List.length_cons, List.length_nil, Nat.reduceAdd, Nat.zero_add, List.range, List.range.loop]
  refine m_op (.pointer (some ⟨lb, 0, none⟩)) rfl rfl (by decide) (fun w => by go_simp) (fun w e he => by simp [go_sem] at he) ?_
  walk_nrm
  refine m_op (.pointer (some ⟨lb, 0, none⟩)) rfl rfl (by decide) (fun w => by go_simp) (fun w e he => by simp [go_sem] at he) ?_
  walk_nrm
  refine m_op (.pointer (some ⟨lb, 17, none⟩)) rfl rfl (by decide) (fun w => by go_simp) (fun w e he => by simp [go_sem] at he) ?_
  walk_nrm
  refine m_load (x := ⟨lb, 17, none⟩) (.slice (some ⟨cb, 0, none⟩) 2 2) rfl rfl (by decide) (fun w hS => by have hc := sees_cell hS hL h17; go_simp) (by rw [hL]; rfl) (fun w hS e he => by have hc := sees_cell hS hL h17; simp [go_sem, *] at he; exact he) ?_
  walk_nrm
  refine m_op (.int .i64 (ci : Int)) rfl rfl (by decide) (fun w => by go_simp) (fun w e he => by simp [go_sem] at he) ?_
  walk_nrm
  refine m_op (.pointer (some ⟨cb, ci * 22, none⟩)) rfl rfl (by decide) (fun w => by have hi := idx_run cb ci hci; go_simp) (fun w e he => by have hi := idx_ev cb ci hci; simp [go_sem, hi] at he) ?_
  walk_nrm
  refine m_op (.pointer (some ⟨cb, ci * 22 + 8, none⟩)) rfl rfl (by decide) (fun w => by go_simp) (fun w e he => by simp [go_sem] at he) ?_
  walk_nrm
  refine m_load (x := ⟨cb, ci * 22 + 8, none⟩) (.func (.func 17) #[] #[.pointer (some ⟨m, 0, none⟩)]) rfl rfl (by decide) (fun w hS => by have hc := sees_cell hS hC h8; go_simp) (by rw [hC]; rfl) (fun w hS e he => by have hc := sees_cell hS hC h8; simp [go_sem, *] at he; exact he) ?_
  walk_nrm
  refine m_enter (f := 17) (args := #[.pointer (some ⟨m, 0, none⟩)]) rfl rfl (by decide) (fun w => by simp [go_sem, execOp, Act.eval, resolve, Deferred.ofValue, invoke, callFunc, Tryz.func17, n17, b17]) (fun w e he => by simp [go_sem, execOp, Act.eval, resolve, Deferred.ofValue, invoke, callFunc, Tryz.func17, n17, b17] at he) Tryz.func17 rfl ?_
  simp only [Tryz.ntmps17, List.size_toArray, List.length_cons, List.length_nil, Nat.reduceAdd, Nat.reduceSub, Array.replicate_succ, Array.replicate_zero, List.push_toArray, List.append_toArray, List.nil_append, List.cons_append]
  refine m_c rfl (fun w => stepG_seq) ?_
  refine m_c rfl (fun w => stepG_region) ?_
  simp only [List.size_toArray, List.length_cons, List.length_nil, Nat.reduceAdd, Nat.zero_add, List.range, List.range.loop]
  refine m_op (.slice none 0 0) rfl rfl (by decide) (fun w => by go_simp) (fun w e he => by simp [go_sem] at he) ?_
  walk_nrm
  refine m_c rfl (fun w => stepG_region_end) ?_
  refine m_c rfl (fun w => stepG_seq) ?_
  refine m_c rfl (fun w => stepG_region) ?_
  simp only [List.size_toArray, List.length_cons, List.length_nil, Nat.reduceAdd, Nat.zero_add, List.range, List.range.loop]
  refine m_load (x := ⟨m, 0, none⟩) (.chan (some n)) rfl rfl (by decide) (fun w hS => by have hc := sees_cell hS hM (o := 0) rfl; go_simp) (by rw [hM]; rfl) (fun w hS e he => by have hc := sees_cell hS hM (o := 0) rfl; simp [go_sem, *] at he; exact he) ?_
  walk_nrm
  refine m_recv (.slice none 0 0) hR rfl rfl (by decide) (fun w => by simp [go_sem, execOp, rcase, Act.eval]) (fun w e he => by simp [go_sem, execOp, Act.eval] at he) fun val F2 hT2 => ?_
  obtain ⟨hM2, s, r, tm, hch⟩ := hT val F2 hT2
  walk_nrm
  refine m_op val rfl rfl (by decide) (fun w => by go_simp) (fun w e he => by simp [go_sem] at he) ?_
  walk_nrm
  refine m_c rfl (fun w => stepG_region_end) ?_
  refine m_c rfl (fun w => stepG_seq) ?_
  refine m_c rfl (fun w => stepG_region) ?_
  simp only [List.size_toArray, List.length_cons, List.length_nil, Nat.reduceAdd, Nat.zero_add, List.range, List.range.loop]
  refine m_load (x := ⟨m, 0, none⟩) (.chan (some n)) rfl rfl (by decide) (fun w hS => by have hc := sees_cell hS hM2 (o := 0) rfl; go_simp) (by rw [hM2]; rfl) (fun w hS e he => by have hc := sees_cell hS hM2 (o := 0) rfl; simp [go_sem, *] at he; exact he) ?_
  walk_nrm
  refine m_op val rfl rfl (by decide) (fun w => by go_simp) (fun w e he => by simp [go_sem] at he) ?_
  walk_nrm
  refine m_send (n := n) (val := val) (.tuple #[]) hch rfl rfl (by decide) (fun w => by simp [go_sem, execOp, scase, Act.eval]) (fun w e he => by simp [go_sem, execOp, Act.eval] at he) ?_
  walk_nrm
  refine m_c rfl (fun w => stepG_region_end) ?_
  refine m_c rfl (fun w => stepG_seq) ?_
  refine m_c rfl (fun w => stepG_region) ?_
  simp only [List.size_toArray, List.length_cons, List.length_nil, Nat.reduceAdd, Nat.zero_add, List.range, List.range.loop]
  refine m_op val rfl rfl (by decide) (fun w => by go_simp) (fun w e he => by simp [go_sem] at he) ?_
  walk_nrm
  refine m_op val rfl rfl (by decide) (fun w => by go_simp) (fun w e he => by simp [go_sem] at he) ?_
  walk_nrm
  refine m_c rfl (fun w => stepG_region_end) ?_
  refine m_c rfl (fun w => stepG_ret') ?_
  refine m_leave1 rfl rfl Tryz.func17 rfl ?_
  rw [Frame.finish_at]
  walk_nrm
  refine m_op val rfl rfl (by decide) (fun w => by go_simp) (fun w e he => by simp [go_sem] at he) ?_
  walk_nrm
  refine m_c rfl (fun w => stepG_region_end) ?_
  refine m_c rfl (fun w => stepG_ret') ?_
  refine m_leave1 rfl rfl Tryz.func13 rfl ?_
  exact g val F2 s r tm hT2 hch
end
end Go.Proofs.YtgjhmbbbkkidlaaGreatDoor.hash
