/-
  The linker context that the law builds.
  Conditions: none.
-/
import Derived.Laws.Tables
import Derived.Test.YtgjhmbbbkkidlaaGreatDoorLate
import Derived.Test.YtgjhmbbbkkidlaaGreatDoorXb
namespace Go.Proofs.YtgjhmbbbkkidlaaGreatDoor.hash
open Go.ChangeShapes Go.WideShapes Go.ChangeAt Go.RowKit
open Go.Proofs.YtgjhmbbbkkidlaaGreatDoor.kit
/-- the chunks as they are made -/
structure Chunks (cs : List Value) : Prop where
  len : cs.length = 44
  zero : ∀ k, k < 2 → cs[k * 22 + 4]? = some .nilIface ∧ cs[k * 22 + 5]? = some (.slice none 0 0) ∧ cs[k * 22 + 10]? = some (.slice none 0 0) ∧ cs[k * 22 + 11]? = some (.slice none 0 0) ∧ cs[k * 22 + 12]? = some (.slice none 0 0)
/-- the linker context in block lb, the options in ob, the chunks in cb -/
structure Ctx (w : World) (path : ByteArray) (lb ob cb : Nat) (ccs : List Value) : Prop where
  l : ∃ cs, Blk w lb 123 cs ∧ cs[0]? = some (.pointer (some ⟨ob, 0, none⟩)) ∧ cs[17]? = some (.slice (some ⟨cb, 0, none⟩) 2 2)
  o : ∃ cs, Blk w ob 94 cs ∧ cs[31]? = some (.string path)
  c : Blk w cb 146 ccs
def MadeL (w : World) (path : ByteArray) (e : Ending) (w' : World) : Prop := ∃ lb ob cb ccs, e = .returned (.pointer (some ⟨lb, 0, none⟩)) ∧ Ctx w' path lb ob cb ccs ∧ Chunks ccs ∧ w.heap.size ≤ lb ∧ w.heap.size ≤ ob ∧ w.heap.size ≤ cb ∧ Kept w w'
theorem x_build {o : Oper} {a : Act} {W : World} {t : TypeId} {parts : Array (Nat × Operand)} {A : Array Value} (ho : o.op = .build t parts) (q : Array (Nat × Value)) (hq : parts.toList.map (fun p => (p.1, a.eval p.2)) = q.toList) (h : (Instr.build t q).run Tryz.prog W = .ok (.agg A) W) : (execOp a.eval o).run Tryz.prog W = .ok (.value (.agg A)) W := by
  have e : parts.map (fun (i, x) => (i, a.eval x)) = q := by
    apply Array.ext'
    rw [Array.toList_map]
    exact hq
  unfold execOp
  simp only [ho, Sem.run_bind, e, h, Result.andThen_ok]
  rfl
def Zeros (C : List Value) : Prop := ∀ o u, o < 22 → (Tryz.prog.info? 146).map (fun i => i.zero.map (·.cells[o]?)) = some (some (some u)) → ∀ k, k < 2 → C[k * 22 + o]? = some u
theorem chunks_of {C : List Value} (h1 : C.length = 2 * 22) (h2 : Zeros C) : Chunks C :=
  ⟨h1, fun k hk => ⟨h2 4 .nilIface (by decide) (by kernel_rfl) k hk, h2 5 (.slice none 0 0) (by decide) (by kernel_rfl) k hk, h2 10 (.slice none 0 0) (by decide) (by kernel_rfl) k hk, h2 11 (.slice none 0 0) (by decide) (by kernel_rfl) k hk, h2 12 (.slice none 0 0) (by decide) (by kernel_rfl) k hk⟩⟩
theorem made_of {w w' : World} {path : ByteArray} {lb ob cb : Nat} {A94 H : Array Value} {C : List Value} (hk : Kept w w') (h2 : Blk w' ob 94 A94.toList) (hA : A94[31]? = some (.string path)) (h7 : Blk w' cb 146 C) (hC : C.length = 2 * 22) (hz : Zeros C)
    (h12 : Blk w' lb 123 H.toList) (hH : H[0]? = some (.pointer (some ⟨ob, 0, none⟩)) ∧ H[17]? = some (.slice (some ⟨cb, 0, none⟩) 2 2)) (s2 : w.heap.size ≤ ob) (s7 : w.heap.size ≤ cb) (s12 : w.heap.size ≤ lb) : MadeL w path (.returned (.pointer (some ⟨lb, 0, none⟩))) w' :=
  ⟨lb, ob, cb, C, rfl, ⟨⟨_, h12, by simpa using hH.1, by simpa using hH.2⟩, ⟨_, h2, by simpa using hA⟩, h7⟩, chunks_of hC hz, s12, s2, s7, hk⟩
set_option maxRecDepth 100000 in
set_option maxHeartbeats 16000000 in
theorem linker_calls (path : ByteArray) (w : World) : Calls Tryz.prog 10 #[.string ⟨#[]⟩, .string path, .int .i64 0, .int .i64 2] w (MadeL w path) := by
  obtain ⟨A94, hA94, hA94p⟩ : ∃ A, Tryz.prog.built 94 [(25, .string path)] = some A ∧ A[31]? = some (.string path) := by
    have h : (Tryz.prog.built 94 [(25, .string path)]).map (fun A => A[31]?) = some (some (.string path)) := by kernel_rfl
    exact Option.map_eq_some_iff.1 h
  have hHx : ∀ ob b cb db c : Nat, ∃ G A, Tryz.prog.built 103 [(0, .slice (some ⟨b, 0, none⟩) 0 0)] = some G ∧ Tryz.prog.built 123 [(0, .pointer (some ⟨ob, 0, none⟩)), (5, .agg G), (6, .slice (some ⟨cb, 0, none⟩) 2 2), (9, .string ⟨#[]⟩), (10, .slice (some ⟨db, 0, none⟩) 0 c)] = some A ∧
      (A[0]?, A[17]?) = (some (.pointer (some ⟨ob, 0, none⟩)), some (.slice (some ⟨cb, 0, none⟩) 2 2)) := by
    intro ob b cb db c
    have h : (Tryz.prog.built 103 [(0, .slice (some ⟨b, 0, none⟩) 0 0)]).bind (fun G => (Tryz.prog.built 123 [(0, .pointer (some ⟨ob, 0, none⟩)), (5, .agg G), (6, .slice (some ⟨cb, 0, none⟩) 2 2), (9, .string ⟨#[]⟩), (10, .slice (some ⟨db, 0, none⟩) 0 c)]).map fun A => (A[0]?, A[17]?)) = some (some (.pointer (some ⟨ob, 0, none⟩)), some (.slice (some ⟨cb, 0, none⟩) 2 2)) := by kernel_rfl
    obtain ⟨G, h1, h2⟩ := Option.bind_eq_some_iff.1 h
    obtain ⟨A, h3, h4⟩ := Option.map_eq_some_iff.1 h2
    exact ⟨G, A, h1, h3, h4⟩
  obtain ⟨G, hG⟩ : ∃ G : Nat → Array Value, ∀ b, Tryz.prog.built 103 [(0, .slice (some ⟨b, 0, none⟩) 0 0)] = some (G b) :=
    Classical.axiomOfChoice fun b => by
      obtain ⟨G, _, h, _⟩ := hHx 0 b 0 0 0
      exact ⟨G, h⟩
  obtain ⟨H, hH, hHp⟩ : ∃ H : Nat → Nat → Nat → Nat → Nat → Array Value, (∀ ob b cb db c, Tryz.prog.built 123 [(0, .pointer (some ⟨ob, 0, none⟩)), (5, .agg (G b)), (6, .slice (some ⟨cb, 0, none⟩) 2 2), (9, .string ⟨#[]⟩), (10, .slice (some ⟨db, 0, none⟩) 0 c)] = some (H ob b cb db c)) ∧
      ∀ ob b cb db c, (H ob b cb db c)[0]? = some (.pointer (some ⟨ob, 0, none⟩)) ∧ (H ob b cb db c)[17]? = some (.slice (some ⟨cb, 0, none⟩) 2 2) := by
    have h : ∀ x : Nat × Nat × Nat × Nat × Nat, ∃ A : Array Value, Tryz.prog.built 123 [(0, .pointer (some ⟨x.1, 0, none⟩)), (5, .agg (G x.2.1)), (6, .slice (some ⟨x.2.2.1, 0, none⟩) 2 2), (9, .string ⟨#[]⟩), (10, .slice (some ⟨x.2.2.2.1, 0, none⟩) 0 x.2.2.2.2)] = some A ∧ A[0]? = some (.pointer (some ⟨x.1, 0, none⟩)) ∧ A[17]? = some (.slice (some ⟨x.2.2.1, 0, none⟩) 2 2) := by
      intro x
      obtain ⟨G1, A, h1, h2, h3⟩ := hHx x.1 x.2.1 x.2.2.1 x.2.2.2.1 x.2.2.2.2
      rw [hG x.2.1] at h1
      cases h1
      simp only [Prod.mk.injEq] at h3
      exact ⟨A, h2, h3⟩
    obtain ⟨H, hH⟩ := Classical.axiomOfChoice h
    exact ⟨fun ob b cb db c => H (ob, b, cb, db, c), fun ob b cb db c => (hH (ob, b, cb, db, c)).1, fun ob b cb db c => (hH (ob, b, cb, db, c)).2⟩
  clear hHx
  have rb1 : ∀ W : World, (Instr.build 94 #[(25, .string path)]).run Tryz.prog W = .ok (.agg A94) W := fun W => run_build W 94 _ A94 hA94
  have rb2 : ∀ (b : Nat) (W : World), (Instr.build 103 #[(0, .slice (some ⟨b, 0, none⟩) 0 0)]).run Tryz.prog W = .ok (.agg (G b)) W := fun b W => run_build W 103 _ _ (hG b)
  have rb3 : ∀ (ob b cb db c : Nat) (W : World), (Instr.build 123 #[(0, .pointer (some ⟨ob, 0, none⟩)), (5, .agg (G b)), (6, .slice (some ⟨cb, 0, none⟩) 2 2), (9, .string ⟨#[]⟩), (10, .slice (some ⟨db, 0, none⟩) 0 c)]).run Tryz.prog W = .ok (.agg (H ob b cb db c)) W := fun ob b cb db c W => run_build W 123 _ _ (hH ob b cb db c)
  obtain ⟨C95, hL95, _, _, mk95⟩ := makeN1 (T := 95) (E := 186) (size := 24) (bytes := 280) Tryz.underlying95 (by kernel_rfl) (by kernel_rfl) 0 (by omega) (by omega)
  obtain ⟨C104, hL104, _, hz104, mk104⟩ := makeN1 (T := 104) (E := 146) (size := 22) (bytes := 336) Tryz.underlying104 (by kernel_rfl) (by kernel_rfl) 2 (by omega) (by omega)
  have hcv : ∀ W : World, (convert 9 24 (.string ⟨#[]⟩)).run Tryz.prog W = .ok (.slice (some ⟨W.heap.size, 0, none⟩) (ByteArray.size ⟨#[]⟩) (grownCap W (ByteArray.size ⟨#[]⟩) 0 5)) (W.drew.alloc (.cells (bytesRow ⟨#[]⟩ (grownCap W (ByteArray.size ⟨#[]⟩) 0 5)) 5 ((bytesRow ⟨#[]⟩ (grownCap W (ByteArray.size ⟨#[]⟩) 0 5)).size, (bytesRow ⟨#[]⟩ (grownCap W (ByteArray.size ⟨#[]⟩) 0 5)).size + 1))) := fun W => run_bytes_of_string W 9 24 5 ⟨#[]⟩ Tryz.underlying9 Tryz.underlying24 Tryz.underlying5
  obtain ⟨KC, XC, hcv2⟩ : ∃ (KC : World → Nat) (XC : World → Obj), ∀ W : World, (convert 9 24 (.string ⟨#[]⟩)).run Tryz.prog W = .ok (.slice (some ⟨W.heap.size, 0, none⟩) 0 (KC W)) (W.drew.alloc (XC W)) := ⟨_, _, hcv⟩
  clear hcv
  have m95 : ∀ W : World, (Instr.makeSlice 95 (.int .i64 0) (.int .i64 0)).run Tryz.prog W = .ok (.slice (some ⟨W.heap.size, 0, none⟩) 0 0) (W.alloc (.cells C95.toArray 186)) := mk95
  have m104 : ∀ W : World, (Instr.makeSlice 104 (.int .i64 2) (.int .i64 2)).run Tryz.prog W = .ok (.slice (some ⟨W.heap.size, 0, none⟩) 2 2) (W.alloc (.cells C104.toArray 146)) := mk104
  clear mk95 mk104
  have HA94 := Lib.hid hA94p
  have HL104 := Lib.hid hL104
  have HZ104 : Hid (Zeros C104) := Lib.hid hz104
  have HH := Lib.hid hHp
  clear hA94 hA94p hG hH hHp hL95 hL104 hz104
  go_enter Tryz.func10, Tryz.ntmps10
  go_wp2
  refine Late.region (S := fun _ => True) 13 (by kernel_rfl) trivial (fun hS0 => ?_)
  have hk0 : Kept w w.drew := (Kept.refl w).drew
  generalize w.drew = w0 at *
  refine Late.take 0 (some 9) (.string path) rfl rfl (by kernel_rfl) (by kernel_rfl) (by kernel_rfl) (by kernel_rfl) (fun _ _ _ h => h) (by kernel_rfl) (fun W hSW => ?_) trivial ?_
  · clear hSW
    go_simp
  try simp only [Act.put, List.setIfInBounds_toArray, List.set_cons_zero, List.set_cons_succ]
  refine Late.take 1 (some 10) (.agg A94) rfl rfl (by kernel_rfl) (by kernel_rfl) (by kernel_rfl) (by kernel_rfl) (fun _ _ _ h => h) (by kernel_rfl) (fun W hSW => x_build rfl #[(25, .string path)] rfl (rb1 W)) trivial ?_
  try simp only [Act.put, List.setIfInBounds_toArray, List.set_cons_zero, List.set_cons_succ]
  refine Late.take 3 (some 12) (.int .i64 0) rfl rfl (by kernel_rfl) (by kernel_rfl) (by kernel_rfl) (by kernel_rfl) (fun _ _ _ h => h) (by kernel_rfl) (fun W hSW => ?_) trivial ?_
  · clear hSW
    go_simp
  try simp only [Act.put, List.setIfInBounds_toArray, List.set_cons_zero, List.set_cons_succ]
  refine Late.take 6 (some 15) (.int .i64 2) rfl rfl (by kernel_rfl) (by kernel_rfl) (by kernel_rfl) (by kernel_rfl) (fun _ _ _ h => h) (by kernel_rfl) (fun W hSW => ?_) trivial ?_
  · clear hSW
    go_simp
  try simp only [Act.put, List.setIfInBounds_toArray, List.set_cons_zero, List.set_cons_succ]
  refine Late.take 8 (some 17) (.string ⟨#[]⟩) rfl rfl (by kernel_rfl) (by kernel_rfl) (by kernel_rfl) (by kernel_rfl) (fun _ _ _ h => h) (by kernel_rfl) (fun W hSW => ?_) trivial ?_
  · clear hSW
    go_simp
  try simp only [Act.put, List.setIfInBounds_toArray, List.set_cons_zero, List.set_cons_succ]
  refine Late.take 9 (some 18) (.string ⟨#[]⟩) rfl rfl (by kernel_rfl) (by kernel_rfl) (by kernel_rfl) (by kernel_rfl) (fun _ _ _ h => h) (by kernel_rfl) (fun W hSW => ?_) trivial ?_
  · clear hSW
    go_simp
  try simp only [Act.put, List.setIfInBounds_toArray, List.set_cons_zero, List.set_cons_succ]
  refine Late.ready (rs := [2, 4, 7, 10]) (by kernel_rfl) (by simp) ?_
  refine LateAll.cons rfl (fun K hK => ?_) (LateAll.cons rfl (fun K hK => ?_) (LateAll.cons rfl (fun K hK => ?_) (LateAll.cons rfl (fun K hK => ?_) (LateAll.nil))))
  · skip
    go_simp
    refine hK.out _ _ trivial (fun _ => ?_)
    clear hK K
    try simp only [Act.put, List.setIfInBounds_toArray, List.set_cons_zero, List.set_cons_succ]
    have hk2 : Kept w0 (w0.alloc (.cells A94 94)) := (Kept.refl _).alloc _
    have hb2 : Blk (w0.alloc (.cells A94 94)) w0.heap.size 94 A94.toList := by simpa using Blk.new w0 94 A94.toList
    have hs2 : w.heap.size ≤ w0.heap.size := hk0.size
    generalize w0.alloc (.cells A94 94) = w1 at *
    generalize w0.heap.size = gb2 at *
    refine Late.ready (rs := [4, 7, 10]) (by kernel_rfl) (by simp) ?_
    refine LateAll.cons rfl (fun K hK => ?_) (LateAll.cons rfl (fun K hK => ?_) (LateAll.cons rfl (fun K hK => ?_) (LateAll.nil)))
    · skip
      go_simp
      refine hK.out _ _ trivial (fun _ => ?_)
      clear hK K
      try simp only [Act.put, List.setIfInBounds_toArray, List.set_cons_zero, List.set_cons_succ]
      have hk4 : Kept w1 (w1.alloc (.cells C95.toArray 186)) := (Kept.refl _).alloc _
      have hb4 : Blk (w1.alloc (.cells C95.toArray 186)) w1.heap.size 186 C95 := Blk.new w1 186 C95
      have hs4 : w.heap.size ≤ w1.heap.size := (hk0.trans hk2).size
      generalize w1.alloc (.cells C95.toArray 186) = w2 at *
      generalize w1.heap.size = gb4 at *
      refine Late.take 5 (some 14) (.agg (G gb4)) rfl rfl (by kernel_rfl) (by kernel_rfl) (by kernel_rfl) (by kernel_rfl) (fun _ _ _ h => h) (by kernel_rfl) (fun W hSW => x_build rfl #[(0, .slice (some ⟨gb4, 0, none⟩) 0 0)] rfl (rb2 gb4 W)) trivial ?_
      try simp only [Act.put, List.setIfInBounds_toArray, List.set_cons_zero, List.set_cons_succ]
      refine Late.ready (rs := [7, 10]) (by kernel_rfl) (by simp) ?_
      refine LateAll.cons rfl (fun K hK => ?_) (LateAll.cons rfl (fun K hK => ?_) (LateAll.nil))
      · skip
        go_simp
        refine hK.out _ _ trivial (fun _ => ?_)
        clear hK K
        try simp only [Act.put, List.setIfInBounds_toArray, List.set_cons_zero, List.set_cons_succ]
        have hk7 : Kept w2 (w2.alloc (.cells C104.toArray 146)) := (Kept.refl _).alloc _
        have hb7 : Blk (w2.alloc (.cells C104.toArray 146)) w2.heap.size 146 C104 := Blk.new w2 146 C104
        have hs7 : w.heap.size ≤ w2.heap.size := ((hk0.trans hk2).trans hk4).size
        generalize w2.alloc (.cells C104.toArray 146) = w3 at *
        generalize w2.heap.size = gb7 at *
        refine Late.ready (rs := [10]) (by kernel_rfl) (by simp) ?_
        refine LateAll.cons rfl (fun K hK => ?_) (LateAll.nil)
        go_simp
        refine hK.out _ _ trivial (fun _ => ?_)
        clear hK K
        try simp only [Act.put, List.setIfInBounds_toArray, List.set_cons_zero, List.set_cons_succ]
        have hk10 : Kept w3 ((w3.alloc (XC w3)).drew) := ((Kept.refl _).alloc _).drew
        have hs10 : w.heap.size ≤ w3.heap.size := (((hk0.trans hk2).trans hk4).trans hk7).size
        generalize (w3.alloc (XC w3)).drew = w4 at *
        generalize w3.heap.size = gb10 at *
        generalize KC w3 = cp at *
        refine Late.take 11 (some 20) (.agg (H gb2 gb4 gb7 gb10 cp)) rfl rfl (by kernel_rfl) (by kernel_rfl) (by kernel_rfl) (by kernel_rfl) (fun _ _ _ h => h) (by kernel_rfl) (fun W hSW => x_build rfl #[(0, .pointer (some ⟨gb2, 0, none⟩)), (5, .agg (G gb4)), (6, .slice (some ⟨gb7, 0, none⟩) 2 2), (9, .string ⟨#[]⟩), (10, .slice (some ⟨gb10, 0, none⟩) 0 cp)] rfl (rb3 gb2 gb4 gb7 gb10 cp W)) trivial ?_
        try simp only [Act.put, List.setIfInBounds_toArray, List.set_cons_zero, List.set_cons_succ]
        refine Late.ready (rs := [12]) (by kernel_rfl) (by simp) ?_
        refine LateAll.cons rfl (fun K hK => ?_) (LateAll.nil)
        go_simp
        refine hK.out _ _ trivial (fun _ => ?_)
        clear hK K
        try simp only [Act.put, List.setIfInBounds_toArray, List.set_cons_zero, List.set_cons_succ]
        have hk12 : Kept w4 (w4.alloc (.cells (H gb2 gb4 gb7 gb10 cp) 123)) := (Kept.refl _).alloc _
        have hb12 : Blk (w4.alloc (.cells (H gb2 gb4 gb7 gb10 cp) 123)) w4.heap.size 123 (H gb2 gb4 gb7 gb10 cp).toList := by simpa using Blk.new w4 123 (H gb2 gb4 gb7 gb10 cp).toList
        have hs12 : w.heap.size ≤ w4.heap.size := ((((hk0.trans hk2).trans hk4).trans hk7).trans hk10).size
        generalize w4.alloc (.cells (H gb2 gb4 gb7 gb10 cp) 123) = w5 at *
        generalize w4.heap.size = gb12 at *
        refine Late.ready (rs := [13]) (by kernel_rfl) (by simp) ?_
        refine LateAll.last rfl (fun K hK => ?_)
        go_simp
        refine hK.out _ _ ?_
        clear hK K
        refine Late.done (by kernel_rfl) ?_ _
        try simp only [Act.put, List.setIfInBounds_toArray, List.set_cons_zero, List.set_cons_succ]
        go_wp2
        go_ret
        exact made_of (hk0.trans ((((hk2.trans hk4).trans hk7).trans hk10).trans hk12)) (hb2.kept (((hk4.trans hk7).trans hk10).trans hk12)) HA94.out (hb7.kept (hk10.trans hk12)) HL104.out HZ104.out (hb12.kept (Kept.refl _)) (HH.out gb2 gb4 gb7 gb10 cp) hs2 hs7 hs12
      · skip
        go_simp
        refine hK.out _ _ trivial (fun _ => ?_)
        clear hK K
        try simp only [Act.put, List.setIfInBounds_toArray, List.set_cons_zero, List.set_cons_succ]
        have hk10 : Kept w2 ((w2.alloc (XC w2)).drew) := ((Kept.refl _).alloc _).drew
        have hs10 : w.heap.size ≤ w2.heap.size := ((hk0.trans hk2).trans hk4).size
        generalize (w2.alloc (XC w2)).drew = w3 at *
        generalize w2.heap.size = gb10 at *
        generalize KC w2 = cp at *
        refine Late.ready (rs := [7]) (by kernel_rfl) (by simp) ?_
        refine LateAll.cons rfl (fun K hK => ?_) (LateAll.nil)
        go_simp
        refine hK.out _ _ trivial (fun _ => ?_)
        clear hK K
        try simp only [Act.put, List.setIfInBounds_toArray, List.set_cons_zero, List.set_cons_succ]
        have hk7 : Kept w3 (w3.alloc (.cells C104.toArray 146)) := (Kept.refl _).alloc _
        have hb7 : Blk (w3.alloc (.cells C104.toArray 146)) w3.heap.size 146 C104 := Blk.new w3 146 C104
        have hs7 : w.heap.size ≤ w3.heap.size := (((hk0.trans hk2).trans hk4).trans hk10).size
        generalize w3.alloc (.cells C104.toArray 146) = w4 at *
        generalize w3.heap.size = gb7 at *
        refine Late.take 11 (some 20) (.agg (H gb2 gb4 gb7 gb10 cp)) rfl rfl (by kernel_rfl) (by kernel_rfl) (by kernel_rfl) (by kernel_rfl) (fun _ _ _ h => h) (by kernel_rfl) (fun W hSW => x_build rfl #[(0, .pointer (some ⟨gb2, 0, none⟩)), (5, .agg (G gb4)), (6, .slice (some ⟨gb7, 0, none⟩) 2 2), (9, .string ⟨#[]⟩), (10, .slice (some ⟨gb10, 0, none⟩) 0 cp)] rfl (rb3 gb2 gb4 gb7 gb10 cp W)) trivial ?_
        try simp only [Act.put, List.setIfInBounds_toArray, List.set_cons_zero, List.set_cons_succ]
        refine Late.ready (rs := [12]) (by kernel_rfl) (by simp) ?_
        refine LateAll.cons rfl (fun K hK => ?_) (LateAll.nil)
        go_simp
        refine hK.out _ _ trivial (fun _ => ?_)
        clear hK K
        try simp only [Act.put, List.setIfInBounds_toArray, List.set_cons_zero, List.set_cons_succ]
        have hk12 : Kept w4 (w4.alloc (.cells (H gb2 gb4 gb7 gb10 cp) 123)) := (Kept.refl _).alloc _
        have hb12 : Blk (w4.alloc (.cells (H gb2 gb4 gb7 gb10 cp) 123)) w4.heap.size 123 (H gb2 gb4 gb7 gb10 cp).toList := by simpa using Blk.new w4 123 (H gb2 gb4 gb7 gb10 cp).toList
        have hs12 : w.heap.size ≤ w4.heap.size := ((((hk0.trans hk2).trans hk4).trans hk10).trans hk7).size
        generalize w4.alloc (.cells (H gb2 gb4 gb7 gb10 cp) 123) = w5 at *
        generalize w4.heap.size = gb12 at *
        refine Late.ready (rs := [13]) (by kernel_rfl) (by simp) ?_
        refine LateAll.last rfl (fun K hK => ?_)
        go_simp
        refine hK.out _ _ ?_
        clear hK K
        refine Late.done (by kernel_rfl) ?_ _
        try simp only [Act.put, List.setIfInBounds_toArray, List.set_cons_zero, List.set_cons_succ]
        go_wp2
        go_ret
        exact made_of (hk0.trans ((((hk2.trans hk4).trans hk10).trans hk7).trans hk12)) (hb2.kept (((hk4.trans hk10).trans hk7).trans hk12)) HA94.out (hb7.kept hk12) HL104.out HZ104.out (hb12.kept (Kept.refl _)) (HH.out gb2 gb4 gb7 gb10 cp) hs2 hs7 hs12
    · skip
      go_simp
      refine hK.out _ _ trivial (fun _ => ?_)
      clear hK K
      try simp only [Act.put, List.setIfInBounds_toArray, List.set_cons_zero, List.set_cons_succ]
      have hk7 : Kept w1 (w1.alloc (.cells C104.toArray 146)) := (Kept.refl _).alloc _
      have hb7 : Blk (w1.alloc (.cells C104.toArray 146)) w1.heap.size 146 C104 := Blk.new w1 146 C104
      have hs7 : w.heap.size ≤ w1.heap.size := (hk0.trans hk2).size
      generalize w1.alloc (.cells C104.toArray 146) = w2 at *
      generalize w1.heap.size = gb7 at *
      refine Late.ready (rs := [4, 10]) (by kernel_rfl) (by simp) ?_
      refine LateAll.cons rfl (fun K hK => ?_) (LateAll.cons rfl (fun K hK => ?_) (LateAll.nil))
      · skip
        go_simp
        refine hK.out _ _ trivial (fun _ => ?_)
        clear hK K
        try simp only [Act.put, List.setIfInBounds_toArray, List.set_cons_zero, List.set_cons_succ]
        have hk4 : Kept w2 (w2.alloc (.cells C95.toArray 186)) := (Kept.refl _).alloc _
        have hb4 : Blk (w2.alloc (.cells C95.toArray 186)) w2.heap.size 186 C95 := Blk.new w2 186 C95
        have hs4 : w.heap.size ≤ w2.heap.size := ((hk0.trans hk2).trans hk7).size
        generalize w2.alloc (.cells C95.toArray 186) = w3 at *
        generalize w2.heap.size = gb4 at *
        refine Late.take 5 (some 14) (.agg (G gb4)) rfl rfl (by kernel_rfl) (by kernel_rfl) (by kernel_rfl) (by kernel_rfl) (fun _ _ _ h => h) (by kernel_rfl) (fun W hSW => x_build rfl #[(0, .slice (some ⟨gb4, 0, none⟩) 0 0)] rfl (rb2 gb4 W)) trivial ?_
        try simp only [Act.put, List.setIfInBounds_toArray, List.set_cons_zero, List.set_cons_succ]
        refine Late.ready (rs := [10]) (by kernel_rfl) (by simp) ?_
        refine LateAll.cons rfl (fun K hK => ?_) (LateAll.nil)
        go_simp
        refine hK.out _ _ trivial (fun _ => ?_)
        clear hK K
        try simp only [Act.put, List.setIfInBounds_toArray, List.set_cons_zero, List.set_cons_succ]
        have hk10 : Kept w3 ((w3.alloc (XC w3)).drew) := ((Kept.refl _).alloc _).drew
        have hs10 : w.heap.size ≤ w3.heap.size := (((hk0.trans hk2).trans hk7).trans hk4).size
        generalize (w3.alloc (XC w3)).drew = w4 at *
        generalize w3.heap.size = gb10 at *
        generalize KC w3 = cp at *
        refine Late.take 11 (some 20) (.agg (H gb2 gb4 gb7 gb10 cp)) rfl rfl (by kernel_rfl) (by kernel_rfl) (by kernel_rfl) (by kernel_rfl) (fun _ _ _ h => h) (by kernel_rfl) (fun W hSW => x_build rfl #[(0, .pointer (some ⟨gb2, 0, none⟩)), (5, .agg (G gb4)), (6, .slice (some ⟨gb7, 0, none⟩) 2 2), (9, .string ⟨#[]⟩), (10, .slice (some ⟨gb10, 0, none⟩) 0 cp)] rfl (rb3 gb2 gb4 gb7 gb10 cp W)) trivial ?_
        try simp only [Act.put, List.setIfInBounds_toArray, List.set_cons_zero, List.set_cons_succ]
        refine Late.ready (rs := [12]) (by kernel_rfl) (by simp) ?_
        refine LateAll.cons rfl (fun K hK => ?_) (LateAll.nil)
        go_simp
        refine hK.out _ _ trivial (fun _ => ?_)
        clear hK K
        try simp only [Act.put, List.setIfInBounds_toArray, List.set_cons_zero, List.set_cons_succ]
        have hk12 : Kept w4 (w4.alloc (.cells (H gb2 gb4 gb7 gb10 cp) 123)) := (Kept.refl _).alloc _
        have hb12 : Blk (w4.alloc (.cells (H gb2 gb4 gb7 gb10 cp) 123)) w4.heap.size 123 (H gb2 gb4 gb7 gb10 cp).toList := by simpa using Blk.new w4 123 (H gb2 gb4 gb7 gb10 cp).toList
        have hs12 : w.heap.size ≤ w4.heap.size := ((((hk0.trans hk2).trans hk7).trans hk4).trans hk10).size
        generalize w4.alloc (.cells (H gb2 gb4 gb7 gb10 cp) 123) = w5 at *
        generalize w4.heap.size = gb12 at *
        refine Late.ready (rs := [13]) (by kernel_rfl) (by simp) ?_
        refine LateAll.last rfl (fun K hK => ?_)
        go_simp
        refine hK.out _ _ ?_
        clear hK K
        refine Late.done (by kernel_rfl) ?_ _
        try simp only [Act.put, List.setIfInBounds_toArray, List.set_cons_zero, List.set_cons_succ]
        go_wp2
        go_ret
        exact made_of (hk0.trans ((((hk2.trans hk7).trans hk4).trans hk10).trans hk12)) (hb2.kept (((hk7.trans hk4).trans hk10).trans hk12)) HA94.out (hb7.kept ((hk4.trans hk10).trans hk12)) HL104.out HZ104.out (hb12.kept (Kept.refl _)) (HH.out gb2 gb4 gb7 gb10 cp) hs2 hs7 hs12
      · skip
        go_simp
        refine hK.out _ _ trivial (fun _ => ?_)
        clear hK K
        try simp only [Act.put, List.setIfInBounds_toArray, List.set_cons_zero, List.set_cons_succ]
        have hk10 : Kept w2 ((w2.alloc (XC w2)).drew) := ((Kept.refl _).alloc _).drew
        have hs10 : w.heap.size ≤ w2.heap.size := ((hk0.trans hk2).trans hk7).size
        generalize (w2.alloc (XC w2)).drew = w3 at *
        generalize w2.heap.size = gb10 at *
        generalize KC w2 = cp at *
        refine Late.ready (rs := [4]) (by kernel_rfl) (by simp) ?_
        refine LateAll.cons rfl (fun K hK => ?_) (LateAll.nil)
        go_simp
        refine hK.out _ _ trivial (fun _ => ?_)
        clear hK K
        try simp only [Act.put, List.setIfInBounds_toArray, List.set_cons_zero, List.set_cons_succ]
        have hk4 : Kept w3 (w3.alloc (.cells C95.toArray 186)) := (Kept.refl _).alloc _
        have hb4 : Blk (w3.alloc (.cells C95.toArray 186)) w3.heap.size 186 C95 := Blk.new w3 186 C95
        have hs4 : w.heap.size ≤ w3.heap.size := (((hk0.trans hk2).trans hk7).trans hk10).size
        generalize w3.alloc (.cells C95.toArray 186) = w4 at *
        generalize w3.heap.size = gb4 at *
        refine Late.take 5 (some 14) (.agg (G gb4)) rfl rfl (by kernel_rfl) (by kernel_rfl) (by kernel_rfl) (by kernel_rfl) (fun _ _ _ h => h) (by kernel_rfl) (fun W hSW => x_build rfl #[(0, .slice (some ⟨gb4, 0, none⟩) 0 0)] rfl (rb2 gb4 W)) trivial ?_
        try simp only [Act.put, List.setIfInBounds_toArray, List.set_cons_zero, List.set_cons_succ]
        refine Late.take 11 (some 20) (.agg (H gb2 gb4 gb7 gb10 cp)) rfl rfl (by kernel_rfl) (by kernel_rfl) (by kernel_rfl) (by kernel_rfl) (fun _ _ _ h => h) (by kernel_rfl) (fun W hSW => x_build rfl #[(0, .pointer (some ⟨gb2, 0, none⟩)), (5, .agg (G gb4)), (6, .slice (some ⟨gb7, 0, none⟩) 2 2), (9, .string ⟨#[]⟩), (10, .slice (some ⟨gb10, 0, none⟩) 0 cp)] rfl (rb3 gb2 gb4 gb7 gb10 cp W)) trivial ?_
        try simp only [Act.put, List.setIfInBounds_toArray, List.set_cons_zero, List.set_cons_succ]
        refine Late.ready (rs := [12]) (by kernel_rfl) (by simp) ?_
        refine LateAll.cons rfl (fun K hK => ?_) (LateAll.nil)
        go_simp
        refine hK.out _ _ trivial (fun _ => ?_)
        clear hK K
        try simp only [Act.put, List.setIfInBounds_toArray, List.set_cons_zero, List.set_cons_succ]
        have hk12 : Kept w4 (w4.alloc (.cells (H gb2 gb4 gb7 gb10 cp) 123)) := (Kept.refl _).alloc _
        have hb12 : Blk (w4.alloc (.cells (H gb2 gb4 gb7 gb10 cp) 123)) w4.heap.size 123 (H gb2 gb4 gb7 gb10 cp).toList := by simpa using Blk.new w4 123 (H gb2 gb4 gb7 gb10 cp).toList
        have hs12 : w.heap.size ≤ w4.heap.size := ((((hk0.trans hk2).trans hk7).trans hk10).trans hk4).size
        generalize w4.alloc (.cells (H gb2 gb4 gb7 gb10 cp) 123) = w5 at *
        generalize w4.heap.size = gb12 at *
        refine Late.ready (rs := [13]) (by kernel_rfl) (by simp) ?_
        refine LateAll.last rfl (fun K hK => ?_)
        go_simp
        refine hK.out _ _ ?_
        clear hK K
        refine Late.done (by kernel_rfl) ?_ _
        try simp only [Act.put, List.setIfInBounds_toArray, List.set_cons_zero, List.set_cons_succ]
        go_wp2
        go_ret
        exact made_of (hk0.trans ((((hk2.trans hk7).trans hk10).trans hk4).trans hk12)) (hb2.kept (((hk7.trans hk10).trans hk4).trans hk12)) HA94.out (hb7.kept ((hk10.trans hk4).trans hk12)) HL104.out HZ104.out (hb12.kept (Kept.refl _)) (HH.out gb2 gb4 gb7 gb10 cp) hs2 hs7 hs12
    · skip
      go_simp
      refine hK.out _ _ trivial (fun _ => ?_)
      clear hK K
      try simp only [Act.put, List.setIfInBounds_toArray, List.set_cons_zero, List.set_cons_succ]
      have hk10 : Kept w1 ((w1.alloc (XC w1)).drew) := ((Kept.refl _).alloc _).drew
      have hs10 : w.heap.size ≤ w1.heap.size := (hk0.trans hk2).size
      generalize (w1.alloc (XC w1)).drew = w2 at *
      generalize w1.heap.size = gb10 at *
      generalize KC w1 = cp at *
      refine Late.ready (rs := [4, 7]) (by kernel_rfl) (by simp) ?_
      refine LateAll.cons rfl (fun K hK => ?_) (LateAll.cons rfl (fun K hK => ?_) (LateAll.nil))
      · skip
        go_simp
        refine hK.out _ _ trivial (fun _ => ?_)
        clear hK K
        try simp only [Act.put, List.setIfInBounds_toArray, List.set_cons_zero, List.set_cons_succ]
        have hk4 : Kept w2 (w2.alloc (.cells C95.toArray 186)) := (Kept.refl _).alloc _
        have hb4 : Blk (w2.alloc (.cells C95.toArray 186)) w2.heap.size 186 C95 := Blk.new w2 186 C95
        have hs4 : w.heap.size ≤ w2.heap.size := ((hk0.trans hk2).trans hk10).size
        generalize w2.alloc (.cells C95.toArray 186) = w3 at *
        generalize w2.heap.size = gb4 at *
        refine Late.take 5 (some 14) (.agg (G gb4)) rfl rfl (by kernel_rfl) (by kernel_rfl) (by kernel_rfl) (by kernel_rfl) (fun _ _ _ h => h) (by kernel_rfl) (fun W hSW => x_build rfl #[(0, .slice (some ⟨gb4, 0, none⟩) 0 0)] rfl (rb2 gb4 W)) trivial ?_
        try simp only [Act.put, List.setIfInBounds_toArray, List.set_cons_zero, List.set_cons_succ]
        refine Late.ready (rs := [7]) (by kernel_rfl) (by simp) ?_
        refine LateAll.cons rfl (fun K hK => ?_) (LateAll.nil)
        go_simp
        refine hK.out _ _ trivial (fun _ => ?_)
        clear hK K
        try simp only [Act.put, List.setIfInBounds_toArray, List.set_cons_zero, List.set_cons_succ]
        have hk7 : Kept w3 (w3.alloc (.cells C104.toArray 146)) := (Kept.refl _).alloc _
        have hb7 : Blk (w3.alloc (.cells C104.toArray 146)) w3.heap.size 146 C104 := Blk.new w3 146 C104
        have hs7 : w.heap.size ≤ w3.heap.size := (((hk0.trans hk2).trans hk10).trans hk4).size
        generalize w3.alloc (.cells C104.toArray 146) = w4 at *
        generalize w3.heap.size = gb7 at *
        refine Late.take 11 (some 20) (.agg (H gb2 gb4 gb7 gb10 cp)) rfl rfl (by kernel_rfl) (by kernel_rfl) (by kernel_rfl) (by kernel_rfl) (fun _ _ _ h => h) (by kernel_rfl) (fun W hSW => x_build rfl #[(0, .pointer (some ⟨gb2, 0, none⟩)), (5, .agg (G gb4)), (6, .slice (some ⟨gb7, 0, none⟩) 2 2), (9, .string ⟨#[]⟩), (10, .slice (some ⟨gb10, 0, none⟩) 0 cp)] rfl (rb3 gb2 gb4 gb7 gb10 cp W)) trivial ?_
        try simp only [Act.put, List.setIfInBounds_toArray, List.set_cons_zero, List.set_cons_succ]
        refine Late.ready (rs := [12]) (by kernel_rfl) (by simp) ?_
        refine LateAll.cons rfl (fun K hK => ?_) (LateAll.nil)
        go_simp
        refine hK.out _ _ trivial (fun _ => ?_)
        clear hK K
        try simp only [Act.put, List.setIfInBounds_toArray, List.set_cons_zero, List.set_cons_succ]
        have hk12 : Kept w4 (w4.alloc (.cells (H gb2 gb4 gb7 gb10 cp) 123)) := (Kept.refl _).alloc _
        have hb12 : Blk (w4.alloc (.cells (H gb2 gb4 gb7 gb10 cp) 123)) w4.heap.size 123 (H gb2 gb4 gb7 gb10 cp).toList := by simpa using Blk.new w4 123 (H gb2 gb4 gb7 gb10 cp).toList
        have hs12 : w.heap.size ≤ w4.heap.size := ((((hk0.trans hk2).trans hk10).trans hk4).trans hk7).size
        generalize w4.alloc (.cells (H gb2 gb4 gb7 gb10 cp) 123) = w5 at *
        generalize w4.heap.size = gb12 at *
        refine Late.ready (rs := [13]) (by kernel_rfl) (by simp) ?_
        refine LateAll.last rfl (fun K hK => ?_)
        go_simp
        refine hK.out _ _ ?_
        clear hK K
        refine Late.done (by kernel_rfl) ?_ _
        try simp only [Act.put, List.setIfInBounds_toArray, List.set_cons_zero, List.set_cons_succ]
        go_wp2
        go_ret
        exact made_of (hk0.trans ((((hk2.trans hk10).trans hk4).trans hk7).trans hk12)) (hb2.kept (((hk10.trans hk4).trans hk7).trans hk12)) HA94.out (hb7.kept hk12) HL104.out HZ104.out (hb12.kept (Kept.refl _)) (HH.out gb2 gb4 gb7 gb10 cp) hs2 hs7 hs12
      · skip
        go_simp
        refine hK.out _ _ trivial (fun _ => ?_)
        clear hK K
        try simp only [Act.put, List.setIfInBounds_toArray, List.set_cons_zero, List.set_cons_succ]
        have hk7 : Kept w2 (w2.alloc (.cells C104.toArray 146)) := (Kept.refl _).alloc _
        have hb7 : Blk (w2.alloc (.cells C104.toArray 146)) w2.heap.size 146 C104 := Blk.new w2 146 C104
        have hs7 : w.heap.size ≤ w2.heap.size := ((hk0.trans hk2).trans hk10).size
        generalize w2.alloc (.cells C104.toArray 146) = w3 at *
        generalize w2.heap.size = gb7 at *
        refine Late.ready (rs := [4]) (by kernel_rfl) (by simp) ?_
        refine LateAll.cons rfl (fun K hK => ?_) (LateAll.nil)
        go_simp
        refine hK.out _ _ trivial (fun _ => ?_)
        clear hK K
        try simp only [Act.put, List.setIfInBounds_toArray, List.set_cons_zero, List.set_cons_succ]
        have hk4 : Kept w3 (w3.alloc (.cells C95.toArray 186)) := (Kept.refl _).alloc _
        have hb4 : Blk (w3.alloc (.cells C95.toArray 186)) w3.heap.size 186 C95 := Blk.new w3 186 C95
        have hs4 : w.heap.size ≤ w3.heap.size := (((hk0.trans hk2).trans hk10).trans hk7).size
        generalize w3.alloc (.cells C95.toArray 186) = w4 at *
        generalize w3.heap.size = gb4 at *
        refine Late.take 5 (some 14) (.agg (G gb4)) rfl rfl (by kernel_rfl) (by kernel_rfl) (by kernel_rfl) (by kernel_rfl) (fun _ _ _ h => h) (by kernel_rfl) (fun W hSW => x_build rfl #[(0, .slice (some ⟨gb4, 0, none⟩) 0 0)] rfl (rb2 gb4 W)) trivial ?_
        try simp only [Act.put, List.setIfInBounds_toArray, List.set_cons_zero, List.set_cons_succ]
        refine Late.take 11 (some 20) (.agg (H gb2 gb4 gb7 gb10 cp)) rfl rfl (by kernel_rfl) (by kernel_rfl) (by kernel_rfl) (by kernel_rfl) (fun _ _ _ h => h) (by kernel_rfl) (fun W hSW => x_build rfl #[(0, .pointer (some ⟨gb2, 0, none⟩)), (5, .agg (G gb4)), (6, .slice (some ⟨gb7, 0, none⟩) 2 2), (9, .string ⟨#[]⟩), (10, .slice (some ⟨gb10, 0, none⟩) 0 cp)] rfl (rb3 gb2 gb4 gb7 gb10 cp W)) trivial ?_
        try simp only [Act.put, List.setIfInBounds_toArray, List.set_cons_zero, List.set_cons_succ]
        refine Late.ready (rs := [12]) (by kernel_rfl) (by simp) ?_
        refine LateAll.cons rfl (fun K hK => ?_) (LateAll.nil)
        go_simp
        refine hK.out _ _ trivial (fun _ => ?_)
        clear hK K
        try simp only [Act.put, List.setIfInBounds_toArray, List.set_cons_zero, List.set_cons_succ]
        have hk12 : Kept w4 (w4.alloc (.cells (H gb2 gb4 gb7 gb10 cp) 123)) := (Kept.refl _).alloc _
        have hb12 : Blk (w4.alloc (.cells (H gb2 gb4 gb7 gb10 cp) 123)) w4.heap.size 123 (H gb2 gb4 gb7 gb10 cp).toList := by simpa using Blk.new w4 123 (H gb2 gb4 gb7 gb10 cp).toList
        have hs12 : w.heap.size ≤ w4.heap.size := ((((hk0.trans hk2).trans hk10).trans hk7).trans hk4).size
        generalize w4.alloc (.cells (H gb2 gb4 gb7 gb10 cp) 123) = w5 at *
        generalize w4.heap.size = gb12 at *
        refine Late.ready (rs := [13]) (by kernel_rfl) (by simp) ?_
        refine LateAll.last rfl (fun K hK => ?_)
        go_simp
        refine hK.out _ _ ?_
        clear hK K
        refine Late.done (by kernel_rfl) ?_ _
        try simp only [Act.put, List.setIfInBounds_toArray, List.set_cons_zero, List.set_cons_succ]
        go_wp2
        go_ret
        exact made_of (hk0.trans ((((hk2.trans hk10).trans hk7).trans hk4).trans hk12)) (hb2.kept (((hk10.trans hk7).trans hk4).trans hk12)) HA94.out (hb7.kept (hk4.trans hk12)) HL104.out HZ104.out (hb12.kept (Kept.refl _)) (HH.out gb2 gb4 gb7 gb10 cp) hs2 hs7 hs12
  · skip
    go_simp
    refine hK.out _ _ trivial (fun _ => ?_)
    clear hK K
    try simp only [Act.put, List.setIfInBounds_toArray, List.set_cons_zero, List.set_cons_succ]
    have hk4 : Kept w0 (w0.alloc (.cells C95.toArray 186)) := (Kept.refl _).alloc _
    have hb4 : Blk (w0.alloc (.cells C95.toArray 186)) w0.heap.size 186 C95 := Blk.new w0 186 C95
    have hs4 : w.heap.size ≤ w0.heap.size := hk0.size
    generalize w0.alloc (.cells C95.toArray 186) = w1 at *
    generalize w0.heap.size = gb4 at *
    refine Late.take 5 (some 14) (.agg (G gb4)) rfl rfl (by kernel_rfl) (by kernel_rfl) (by kernel_rfl) (by kernel_rfl) (fun _ _ _ h => h) (by kernel_rfl) (fun W hSW => x_build rfl #[(0, .slice (some ⟨gb4, 0, none⟩) 0 0)] rfl (rb2 gb4 W)) trivial ?_
    try simp only [Act.put, List.setIfInBounds_toArray, List.set_cons_zero, List.set_cons_succ]
    refine Late.ready (rs := [2, 7, 10]) (by kernel_rfl) (by simp) ?_
    refine LateAll.cons rfl (fun K hK => ?_) (LateAll.cons rfl (fun K hK => ?_) (LateAll.cons rfl (fun K hK => ?_) (LateAll.nil)))
    · skip
      go_simp
      refine hK.out _ _ trivial (fun _ => ?_)
      clear hK K
      try simp only [Act.put, List.setIfInBounds_toArray, List.set_cons_zero, List.set_cons_succ]
      have hk2 : Kept w1 (w1.alloc (.cells A94 94)) := (Kept.refl _).alloc _
      have hb2 : Blk (w1.alloc (.cells A94 94)) w1.heap.size 94 A94.toList := by simpa using Blk.new w1 94 A94.toList
      have hs2 : w.heap.size ≤ w1.heap.size := (hk0.trans hk4).size
      generalize w1.alloc (.cells A94 94) = w2 at *
      generalize w1.heap.size = gb2 at *
      refine Late.ready (rs := [7, 10]) (by kernel_rfl) (by simp) ?_
      refine LateAll.cons rfl (fun K hK => ?_) (LateAll.cons rfl (fun K hK => ?_) (LateAll.nil))
      · skip
        go_simp
        refine hK.out _ _ trivial (fun _ => ?_)
        clear hK K
        try simp only [Act.put, List.setIfInBounds_toArray, List.set_cons_zero, List.set_cons_succ]
        have hk7 : Kept w2 (w2.alloc (.cells C104.toArray 146)) := (Kept.refl _).alloc _
        have hb7 : Blk (w2.alloc (.cells C104.toArray 146)) w2.heap.size 146 C104 := Blk.new w2 146 C104
        have hs7 : w.heap.size ≤ w2.heap.size := ((hk0.trans hk4).trans hk2).size
        generalize w2.alloc (.cells C104.toArray 146) = w3 at *
        generalize w2.heap.size = gb7 at *
        refine Late.ready (rs := [10]) (by kernel_rfl) (by simp) ?_
        refine LateAll.cons rfl (fun K hK => ?_) (LateAll.nil)
        go_simp
        refine hK.out _ _ trivial (fun _ => ?_)
        clear hK K
        try simp only [Act.put, List.setIfInBounds_toArray, List.set_cons_zero, List.set_cons_succ]
        have hk10 : Kept w3 ((w3.alloc (XC w3)).drew) := ((Kept.refl _).alloc _).drew
        have hs10 : w.heap.size ≤ w3.heap.size := (((hk0.trans hk4).trans hk2).trans hk7).size
        generalize (w3.alloc (XC w3)).drew = w4 at *
        generalize w3.heap.size = gb10 at *
        generalize KC w3 = cp at *
        refine Late.take 11 (some 20) (.agg (H gb2 gb4 gb7 gb10 cp)) rfl rfl (by kernel_rfl) (by kernel_rfl) (by kernel_rfl) (by kernel_rfl) (fun _ _ _ h => h) (by kernel_rfl) (fun W hSW => x_build rfl #[(0, .pointer (some ⟨gb2, 0, none⟩)), (5, .agg (G gb4)), (6, .slice (some ⟨gb7, 0, none⟩) 2 2), (9, .string ⟨#[]⟩), (10, .slice (some ⟨gb10, 0, none⟩) 0 cp)] rfl (rb3 gb2 gb4 gb7 gb10 cp W)) trivial ?_
        try simp only [Act.put, List.setIfInBounds_toArray, List.set_cons_zero, List.set_cons_succ]
        refine Late.ready (rs := [12]) (by kernel_rfl) (by simp) ?_
        refine LateAll.cons rfl (fun K hK => ?_) (LateAll.nil)
        go_simp
        refine hK.out _ _ trivial (fun _ => ?_)
        clear hK K
        try simp only [Act.put, List.setIfInBounds_toArray, List.set_cons_zero, List.set_cons_succ]
        have hk12 : Kept w4 (w4.alloc (.cells (H gb2 gb4 gb7 gb10 cp) 123)) := (Kept.refl _).alloc _
        have hb12 : Blk (w4.alloc (.cells (H gb2 gb4 gb7 gb10 cp) 123)) w4.heap.size 123 (H gb2 gb4 gb7 gb10 cp).toList := by simpa using Blk.new w4 123 (H gb2 gb4 gb7 gb10 cp).toList
        have hs12 : w.heap.size ≤ w4.heap.size := ((((hk0.trans hk4).trans hk2).trans hk7).trans hk10).size
        generalize w4.alloc (.cells (H gb2 gb4 gb7 gb10 cp) 123) = w5 at *
        generalize w4.heap.size = gb12 at *
        refine Late.ready (rs := [13]) (by kernel_rfl) (by simp) ?_
        refine LateAll.last rfl (fun K hK => ?_)
        go_simp
        refine hK.out _ _ ?_
        clear hK K
        refine Late.done (by kernel_rfl) ?_ _
        try simp only [Act.put, List.setIfInBounds_toArray, List.set_cons_zero, List.set_cons_succ]
        go_wp2
        go_ret
        exact made_of (hk0.trans ((((hk4.trans hk2).trans hk7).trans hk10).trans hk12)) (hb2.kept ((hk7.trans hk10).trans hk12)) HA94.out (hb7.kept (hk10.trans hk12)) HL104.out HZ104.out (hb12.kept (Kept.refl _)) (HH.out gb2 gb4 gb7 gb10 cp) hs2 hs7 hs12
      · skip
        go_simp
        refine hK.out _ _ trivial (fun _ => ?_)
        clear hK K
        try simp only [Act.put, List.setIfInBounds_toArray, List.set_cons_zero, List.set_cons_succ]
        have hk10 : Kept w2 ((w2.alloc (XC w2)).drew) := ((Kept.refl _).alloc _).drew
        have hs10 : w.heap.size ≤ w2.heap.size := ((hk0.trans hk4).trans hk2).size
        generalize (w2.alloc (XC w2)).drew = w3 at *
        generalize w2.heap.size = gb10 at *
        generalize KC w2 = cp at *
        refine Late.ready (rs := [7]) (by kernel_rfl) (by simp) ?_
        refine LateAll.cons rfl (fun K hK => ?_) (LateAll.nil)
        go_simp
        refine hK.out _ _ trivial (fun _ => ?_)
        clear hK K
        try simp only [Act.put, List.setIfInBounds_toArray, List.set_cons_zero, List.set_cons_succ]
        have hk7 : Kept w3 (w3.alloc (.cells C104.toArray 146)) := (Kept.refl _).alloc _
        have hb7 : Blk (w3.alloc (.cells C104.toArray 146)) w3.heap.size 146 C104 := Blk.new w3 146 C104
        have hs7 : w.heap.size ≤ w3.heap.size := (((hk0.trans hk4).trans hk2).trans hk10).size
        generalize w3.alloc (.cells C104.toArray 146) = w4 at *
        generalize w3.heap.size = gb7 at *
        refine Late.take 11 (some 20) (.agg (H gb2 gb4 gb7 gb10 cp)) rfl rfl (by kernel_rfl) (by kernel_rfl) (by kernel_rfl) (by kernel_rfl) (fun _ _ _ h => h) (by kernel_rfl) (fun W hSW => x_build rfl #[(0, .pointer (some ⟨gb2, 0, none⟩)), (5, .agg (G gb4)), (6, .slice (some ⟨gb7, 0, none⟩) 2 2), (9, .string ⟨#[]⟩), (10, .slice (some ⟨gb10, 0, none⟩) 0 cp)] rfl (rb3 gb2 gb4 gb7 gb10 cp W)) trivial ?_
        try simp only [Act.put, List.setIfInBounds_toArray, List.set_cons_zero, List.set_cons_succ]
        refine Late.ready (rs := [12]) (by kernel_rfl) (by simp) ?_
        refine LateAll.cons rfl (fun K hK => ?_) (LateAll.nil)
        go_simp
        refine hK.out _ _ trivial (fun _ => ?_)
        clear hK K
        try simp only [Act.put, List.setIfInBounds_toArray, List.set_cons_zero, List.set_cons_succ]
        have hk12 : Kept w4 (w4.alloc (.cells (H gb2 gb4 gb7 gb10 cp) 123)) := (Kept.refl _).alloc _
        have hb12 : Blk (w4.alloc (.cells (H gb2 gb4 gb7 gb10 cp) 123)) w4.heap.size 123 (H gb2 gb4 gb7 gb10 cp).toList := by simpa using Blk.new w4 123 (H gb2 gb4 gb7 gb10 cp).toList
        have hs12 : w.heap.size ≤ w4.heap.size := ((((hk0.trans hk4).trans hk2).trans hk10).trans hk7).size
        generalize w4.alloc (.cells (H gb2 gb4 gb7 gb10 cp) 123) = w5 at *
        generalize w4.heap.size = gb12 at *
        refine Late.ready (rs := [13]) (by kernel_rfl) (by simp) ?_
        refine LateAll.last rfl (fun K hK => ?_)
        go_simp
        refine hK.out _ _ ?_
        clear hK K
        refine Late.done (by kernel_rfl) ?_ _
        try simp only [Act.put, List.setIfInBounds_toArray, List.set_cons_zero, List.set_cons_succ]
        go_wp2
        go_ret
        exact made_of (hk0.trans ((((hk4.trans hk2).trans hk10).trans hk7).trans hk12)) (hb2.kept ((hk10.trans hk7).trans hk12)) HA94.out (hb7.kept hk12) HL104.out HZ104.out (hb12.kept (Kept.refl _)) (HH.out gb2 gb4 gb7 gb10 cp) hs2 hs7 hs12
    · skip
      go_simp
      refine hK.out _ _ trivial (fun _ => ?_)
      clear hK K
      try simp only [Act.put, List.setIfInBounds_toArray, List.set_cons_zero, List.set_cons_succ]
      have hk7 : Kept w1 (w1.alloc (.cells C104.toArray 146)) := (Kept.refl _).alloc _
      have hb7 : Blk (w1.alloc (.cells C104.toArray 146)) w1.heap.size 146 C104 := Blk.new w1 146 C104
      have hs7 : w.heap.size ≤ w1.heap.size := (hk0.trans hk4).size
      generalize w1.alloc (.cells C104.toArray 146) = w2 at *
      generalize w1.heap.size = gb7 at *
      refine Late.ready (rs := [2, 10]) (by kernel_rfl) (by simp) ?_
      refine LateAll.cons rfl (fun K hK => ?_) (LateAll.cons rfl (fun K hK => ?_) (LateAll.nil))
      · skip
        go_simp
        refine hK.out _ _ trivial (fun _ => ?_)
        clear hK K
        try simp only [Act.put, List.setIfInBounds_toArray, List.set_cons_zero, List.set_cons_succ]
        have hk2 : Kept w2 (w2.alloc (.cells A94 94)) := (Kept.refl _).alloc _
        have hb2 : Blk (w2.alloc (.cells A94 94)) w2.heap.size 94 A94.toList := by simpa using Blk.new w2 94 A94.toList
        have hs2 : w.heap.size ≤ w2.heap.size := ((hk0.trans hk4).trans hk7).size
        generalize w2.alloc (.cells A94 94) = w3 at *
        generalize w2.heap.size = gb2 at *
        refine Late.ready (rs := [10]) (by kernel_rfl) (by simp) ?_
        refine LateAll.cons rfl (fun K hK => ?_) (LateAll.nil)
        go_simp
        refine hK.out _ _ trivial (fun _ => ?_)
        clear hK K
        try simp only [Act.put, List.setIfInBounds_toArray, List.set_cons_zero, List.set_cons_succ]
        have hk10 : Kept w3 ((w3.alloc (XC w3)).drew) := ((Kept.refl _).alloc _).drew
        have hs10 : w.heap.size ≤ w3.heap.size := (((hk0.trans hk4).trans hk7).trans hk2).size
        generalize (w3.alloc (XC w3)).drew = w4 at *
        generalize w3.heap.size = gb10 at *
        generalize KC w3 = cp at *
        refine Late.take 11 (some 20) (.agg (H gb2 gb4 gb7 gb10 cp)) rfl rfl (by kernel_rfl) (by kernel_rfl) (by kernel_rfl) (by kernel_rfl) (fun _ _ _ h => h) (by kernel_rfl) (fun W hSW => x_build rfl #[(0, .pointer (some ⟨gb2, 0, none⟩)), (5, .agg (G gb4)), (6, .slice (some ⟨gb7, 0, none⟩) 2 2), (9, .string ⟨#[]⟩), (10, .slice (some ⟨gb10, 0, none⟩) 0 cp)] rfl (rb3 gb2 gb4 gb7 gb10 cp W)) trivial ?_
        try simp only [Act.put, List.setIfInBounds_toArray, List.set_cons_zero, List.set_cons_succ]
        refine Late.ready (rs := [12]) (by kernel_rfl) (by simp) ?_
        refine LateAll.cons rfl (fun K hK => ?_) (LateAll.nil)
        go_simp
        refine hK.out _ _ trivial (fun _ => ?_)
        clear hK K
        try simp only [Act.put, List.setIfInBounds_toArray, List.set_cons_zero, List.set_cons_succ]
        have hk12 : Kept w4 (w4.alloc (.cells (H gb2 gb4 gb7 gb10 cp) 123)) := (Kept.refl _).alloc _
        have hb12 : Blk (w4.alloc (.cells (H gb2 gb4 gb7 gb10 cp) 123)) w4.heap.size 123 (H gb2 gb4 gb7 gb10 cp).toList := by simpa using Blk.new w4 123 (H gb2 gb4 gb7 gb10 cp).toList
        have hs12 : w.heap.size ≤ w4.heap.size := ((((hk0.trans hk4).trans hk7).trans hk2).trans hk10).size
        generalize w4.alloc (.cells (H gb2 gb4 gb7 gb10 cp) 123) = w5 at *
        generalize w4.heap.size = gb12 at *
        refine Late.ready (rs := [13]) (by kernel_rfl) (by simp) ?_
        refine LateAll.last rfl (fun K hK => ?_)
        go_simp
        refine hK.out _ _ ?_
        clear hK K
        refine Late.done (by kernel_rfl) ?_ _
        try simp only [Act.put, List.setIfInBounds_toArray, List.set_cons_zero, List.set_cons_succ]
        go_wp2
        go_ret
        exact made_of (hk0.trans ((((hk4.trans hk7).trans hk2).trans hk10).trans hk12)) (hb2.kept (hk10.trans hk12)) HA94.out (hb7.kept ((hk2.trans hk10).trans hk12)) HL104.out HZ104.out (hb12.kept (Kept.refl _)) (HH.out gb2 gb4 gb7 gb10 cp) hs2 hs7 hs12
      · skip
        go_simp
        refine hK.out _ _ trivial (fun _ => ?_)
        clear hK K
        try simp only [Act.put, List.setIfInBounds_toArray, List.set_cons_zero, List.set_cons_succ]
        have hk10 : Kept w2 ((w2.alloc (XC w2)).drew) := ((Kept.refl _).alloc _).drew
        have hs10 : w.heap.size ≤ w2.heap.size := ((hk0.trans hk4).trans hk7).size
        generalize (w2.alloc (XC w2)).drew = w3 at *
        generalize w2.heap.size = gb10 at *
        generalize KC w2 = cp at *
        refine Late.ready (rs := [2]) (by kernel_rfl) (by simp) ?_
        refine LateAll.cons rfl (fun K hK => ?_) (LateAll.nil)
        go_simp
        refine hK.out _ _ trivial (fun _ => ?_)
        clear hK K
        try simp only [Act.put, List.setIfInBounds_toArray, List.set_cons_zero, List.set_cons_succ]
        have hk2 : Kept w3 (w3.alloc (.cells A94 94)) := (Kept.refl _).alloc _
        have hb2 : Blk (w3.alloc (.cells A94 94)) w3.heap.size 94 A94.toList := by simpa using Blk.new w3 94 A94.toList
        have hs2 : w.heap.size ≤ w3.heap.size := (((hk0.trans hk4).trans hk7).trans hk10).size
        generalize w3.alloc (.cells A94 94) = w4 at *
        generalize w3.heap.size = gb2 at *
        refine Late.take 11 (some 20) (.agg (H gb2 gb4 gb7 gb10 cp)) rfl rfl (by kernel_rfl) (by kernel_rfl) (by kernel_rfl) (by kernel_rfl) (fun _ _ _ h => h) (by kernel_rfl) (fun W hSW => x_build rfl #[(0, .pointer (some ⟨gb2, 0, none⟩)), (5, .agg (G gb4)), (6, .slice (some ⟨gb7, 0, none⟩) 2 2), (9, .string ⟨#[]⟩), (10, .slice (some ⟨gb10, 0, none⟩) 0 cp)] rfl (rb3 gb2 gb4 gb7 gb10 cp W)) trivial ?_
        try simp only [Act.put, List.setIfInBounds_toArray, List.set_cons_zero, List.set_cons_succ]
        refine Late.ready (rs := [12]) (by kernel_rfl) (by simp) ?_
        refine LateAll.cons rfl (fun K hK => ?_) (LateAll.nil)
        go_simp
        refine hK.out _ _ trivial (fun _ => ?_)
        clear hK K
        try simp only [Act.put, List.setIfInBounds_toArray, List.set_cons_zero, List.set_cons_succ]
        have hk12 : Kept w4 (w4.alloc (.cells (H gb2 gb4 gb7 gb10 cp) 123)) := (Kept.refl _).alloc _
        have hb12 : Blk (w4.alloc (.cells (H gb2 gb4 gb7 gb10 cp) 123)) w4.heap.size 123 (H gb2 gb4 gb7 gb10 cp).toList := by simpa using Blk.new w4 123 (H gb2 gb4 gb7 gb10 cp).toList
        have hs12 : w.heap.size ≤ w4.heap.size := ((((hk0.trans hk4).trans hk7).trans hk10).trans hk2).size
        generalize w4.alloc (.cells (H gb2 gb4 gb7 gb10 cp) 123) = w5 at *
        generalize w4.heap.size = gb12 at *
        refine Late.ready (rs := [13]) (by kernel_rfl) (by simp) ?_
        refine LateAll.last rfl (fun K hK => ?_)
        go_simp
        refine hK.out _ _ ?_
        clear hK K
        refine Late.done (by kernel_rfl) ?_ _
        try simp only [Act.put, List.setIfInBounds_toArray, List.set_cons_zero, List.set_cons_succ]
        go_wp2
        go_ret
        exact made_of (hk0.trans ((((hk4.trans hk7).trans hk10).trans hk2).trans hk12)) (hb2.kept hk12) HA94.out (hb7.kept ((hk10.trans hk2).trans hk12)) HL104.out HZ104.out (hb12.kept (Kept.refl _)) (HH.out gb2 gb4 gb7 gb10 cp) hs2 hs7 hs12
    · skip
      go_simp
      refine hK.out _ _ trivial (fun _ => ?_)
      clear hK K
      try simp only [Act.put, List.setIfInBounds_toArray, List.set_cons_zero, List.set_cons_succ]
      have hk10 : Kept w1 ((w1.alloc (XC w1)).drew) := ((Kept.refl _).alloc _).drew
      have hs10 : w.heap.size ≤ w1.heap.size := (hk0.trans hk4).size
      generalize (w1.alloc (XC w1)).drew = w2 at *
      generalize w1.heap.size = gb10 at *
      generalize KC w1 = cp at *
      refine Late.ready (rs := [2, 7]) (by kernel_rfl) (by simp) ?_
      refine LateAll.cons rfl (fun K hK => ?_) (LateAll.cons rfl (fun K hK => ?_) (LateAll.nil))
      · skip
        go_simp
        refine hK.out _ _ trivial (fun _ => ?_)
        clear hK K
        try simp only [Act.put, List.setIfInBounds_toArray, List.set_cons_zero, List.set_cons_succ]
        have hk2 : Kept w2 (w2.alloc (.cells A94 94)) := (Kept.refl _).alloc _
        have hb2 : Blk (w2.alloc (.cells A94 94)) w2.heap.size 94 A94.toList := by simpa using Blk.new w2 94 A94.toList
        have hs2 : w.heap.size ≤ w2.heap.size := ((hk0.trans hk4).trans hk10).size
        generalize w2.alloc (.cells A94 94) = w3 at *
        generalize w2.heap.size = gb2 at *
        refine Late.ready (rs := [7]) (by kernel_rfl) (by simp) ?_
        refine LateAll.cons rfl (fun K hK => ?_) (LateAll.nil)
        go_simp
        refine hK.out _ _ trivial (fun _ => ?_)
        clear hK K
        try simp only [Act.put, List.setIfInBounds_toArray, List.set_cons_zero, List.set_cons_succ]
        have hk7 : Kept w3 (w3.alloc (.cells C104.toArray 146)) := (Kept.refl _).alloc _
        have hb7 : Blk (w3.alloc (.cells C104.toArray 146)) w3.heap.size 146 C104 := Blk.new w3 146 C104
        have hs7 : w.heap.size ≤ w3.heap.size := (((hk0.trans hk4).trans hk10).trans hk2).size
        generalize w3.alloc (.cells C104.toArray 146) = w4 at *
        generalize w3.heap.size = gb7 at *
        refine Late.take 11 (some 20) (.agg (H gb2 gb4 gb7 gb10 cp)) rfl rfl (by kernel_rfl) (by kernel_rfl) (by kernel_rfl) (by kernel_rfl) (fun _ _ _ h => h) (by kernel_rfl) (fun W hSW => x_build rfl #[(0, .pointer (some ⟨gb2, 0, none⟩)), (5, .agg (G gb4)), (6, .slice (some ⟨gb7, 0, none⟩) 2 2), (9, .string ⟨#[]⟩), (10, .slice (some ⟨gb10, 0, none⟩) 0 cp)] rfl (rb3 gb2 gb4 gb7 gb10 cp W)) trivial ?_
        try simp only [Act.put, List.setIfInBounds_toArray, List.set_cons_zero, List.set_cons_succ]
        refine Late.ready (rs := [12]) (by kernel_rfl) (by simp) ?_
        refine LateAll.cons rfl (fun K hK => ?_) (LateAll.nil)
        go_simp
        refine hK.out _ _ trivial (fun _ => ?_)
        clear hK K
        try simp only [Act.put, List.setIfInBounds_toArray, List.set_cons_zero, List.set_cons_succ]
        have hk12 : Kept w4 (w4.alloc (.cells (H gb2 gb4 gb7 gb10 cp) 123)) := (Kept.refl _).alloc _
        have hb12 : Blk (w4.alloc (.cells (H gb2 gb4 gb7 gb10 cp) 123)) w4.heap.size 123 (H gb2 gb4 gb7 gb10 cp).toList := by simpa using Blk.new w4 123 (H gb2 gb4 gb7 gb10 cp).toList
        have hs12 : w.heap.size ≤ w4.heap.size := ((((hk0.trans hk4).trans hk10).trans hk2).trans hk7).size
        generalize w4.alloc (.cells (H gb2 gb4 gb7 gb10 cp) 123) = w5 at *
        generalize w4.heap.size = gb12 at *
        refine Late.ready (rs := [13]) (by kernel_rfl) (by simp) ?_
        refine LateAll.last rfl (fun K hK => ?_)
        go_simp
        refine hK.out _ _ ?_
        clear hK K
        refine Late.done (by kernel_rfl) ?_ _
        try simp only [Act.put, List.setIfInBounds_toArray, List.set_cons_zero, List.set_cons_succ]
        go_wp2
        go_ret
        exact made_of (hk0.trans ((((hk4.trans hk10).trans hk2).trans hk7).trans hk12)) (hb2.kept (hk7.trans hk12)) HA94.out (hb7.kept hk12) HL104.out HZ104.out (hb12.kept (Kept.refl _)) (HH.out gb2 gb4 gb7 gb10 cp) hs2 hs7 hs12
      · skip
        go_simp
        refine hK.out _ _ trivial (fun _ => ?_)
        clear hK K
        try simp only [Act.put, List.setIfInBounds_toArray, List.set_cons_zero, List.set_cons_succ]
        have hk7 : Kept w2 (w2.alloc (.cells C104.toArray 146)) := (Kept.refl _).alloc _
        have hb7 : Blk (w2.alloc (.cells C104.toArray 146)) w2.heap.size 146 C104 := Blk.new w2 146 C104
        have hs7 : w.heap.size ≤ w2.heap.size := ((hk0.trans hk4).trans hk10).size
        generalize w2.alloc (.cells C104.toArray 146) = w3 at *
        generalize w2.heap.size = gb7 at *
        refine Late.ready (rs := [2]) (by kernel_rfl) (by simp) ?_
        refine LateAll.cons rfl (fun K hK => ?_) (LateAll.nil)
        go_simp
        refine hK.out _ _ trivial (fun _ => ?_)
        clear hK K
        try simp only [Act.put, List.setIfInBounds_toArray, List.set_cons_zero, List.set_cons_succ]
        have hk2 : Kept w3 (w3.alloc (.cells A94 94)) := (Kept.refl _).alloc _
        have hb2 : Blk (w3.alloc (.cells A94 94)) w3.heap.size 94 A94.toList := by simpa using Blk.new w3 94 A94.toList
        have hs2 : w.heap.size ≤ w3.heap.size := (((hk0.trans hk4).trans hk10).trans hk7).size
        generalize w3.alloc (.cells A94 94) = w4 at *
        generalize w3.heap.size = gb2 at *
        refine Late.take 11 (some 20) (.agg (H gb2 gb4 gb7 gb10 cp)) rfl rfl (by kernel_rfl) (by kernel_rfl) (by kernel_rfl) (by kernel_rfl) (fun _ _ _ h => h) (by kernel_rfl) (fun W hSW => x_build rfl #[(0, .pointer (some ⟨gb2, 0, none⟩)), (5, .agg (G gb4)), (6, .slice (some ⟨gb7, 0, none⟩) 2 2), (9, .string ⟨#[]⟩), (10, .slice (some ⟨gb10, 0, none⟩) 0 cp)] rfl (rb3 gb2 gb4 gb7 gb10 cp W)) trivial ?_
        try simp only [Act.put, List.setIfInBounds_toArray, List.set_cons_zero, List.set_cons_succ]
        refine Late.ready (rs := [12]) (by kernel_rfl) (by simp) ?_
        refine LateAll.cons rfl (fun K hK => ?_) (LateAll.nil)
        go_simp
        refine hK.out _ _ trivial (fun _ => ?_)
        clear hK K
        try simp only [Act.put, List.setIfInBounds_toArray, List.set_cons_zero, List.set_cons_succ]
        have hk12 : Kept w4 (w4.alloc (.cells (H gb2 gb4 gb7 gb10 cp) 123)) := (Kept.refl _).alloc _
        have hb12 : Blk (w4.alloc (.cells (H gb2 gb4 gb7 gb10 cp) 123)) w4.heap.size 123 (H gb2 gb4 gb7 gb10 cp).toList := by simpa using Blk.new w4 123 (H gb2 gb4 gb7 gb10 cp).toList
        have hs12 : w.heap.size ≤ w4.heap.size := ((((hk0.trans hk4).trans hk10).trans hk7).trans hk2).size
        generalize w4.alloc (.cells (H gb2 gb4 gb7 gb10 cp) 123) = w5 at *
        generalize w4.heap.size = gb12 at *
        refine Late.ready (rs := [13]) (by kernel_rfl) (by simp) ?_
        refine LateAll.last rfl (fun K hK => ?_)
        go_simp
        refine hK.out _ _ ?_
        clear hK K
        refine Late.done (by kernel_rfl) ?_ _
        try simp only [Act.put, List.setIfInBounds_toArray, List.set_cons_zero, List.set_cons_succ]
        go_wp2
        go_ret
        exact made_of (hk0.trans ((((hk4.trans hk10).trans hk7).trans hk2).trans hk12)) (hb2.kept hk12) HA94.out (hb7.kept (hk2.trans hk12)) HL104.out HZ104.out (hb12.kept (Kept.refl _)) (HH.out gb2 gb4 gb7 gb10 cp) hs2 hs7 hs12
  · skip
    go_simp
    refine hK.out _ _ trivial (fun _ => ?_)
    clear hK K
    try simp only [Act.put, List.setIfInBounds_toArray, List.set_cons_zero, List.set_cons_succ]
    have hk7 : Kept w0 (w0.alloc (.cells C104.toArray 146)) := (Kept.refl _).alloc _
    have hb7 : Blk (w0.alloc (.cells C104.toArray 146)) w0.heap.size 146 C104 := Blk.new w0 146 C104
    have hs7 : w.heap.size ≤ w0.heap.size := hk0.size
    generalize w0.alloc (.cells C104.toArray 146) = w1 at *
    generalize w0.heap.size = gb7 at *
    refine Late.ready (rs := [2, 4, 10]) (by kernel_rfl) (by simp) ?_
    refine LateAll.cons rfl (fun K hK => ?_) (LateAll.cons rfl (fun K hK => ?_) (LateAll.cons rfl (fun K hK => ?_) (LateAll.nil)))
    · skip
      go_simp
      refine hK.out _ _ trivial (fun _ => ?_)
      clear hK K
      try simp only [Act.put, List.setIfInBounds_toArray, List.set_cons_zero, List.set_cons_succ]
      have hk2 : Kept w1 (w1.alloc (.cells A94 94)) := (Kept.refl _).alloc _
      have hb2 : Blk (w1.alloc (.cells A94 94)) w1.heap.size 94 A94.toList := by simpa using Blk.new w1 94 A94.toList
      have hs2 : w.heap.size ≤ w1.heap.size := (hk0.trans hk7).size
      generalize w1.alloc (.cells A94 94) = w2 at *
      generalize w1.heap.size = gb2 at *
      refine Late.ready (rs := [4, 10]) (by kernel_rfl) (by simp) ?_
      refine LateAll.cons rfl (fun K hK => ?_) (LateAll.cons rfl (fun K hK => ?_) (LateAll.nil))
      · skip
        go_simp
        refine hK.out _ _ trivial (fun _ => ?_)
        clear hK K
        try simp only [Act.put, List.setIfInBounds_toArray, List.set_cons_zero, List.set_cons_succ]
        have hk4 : Kept w2 (w2.alloc (.cells C95.toArray 186)) := (Kept.refl _).alloc _
        have hb4 : Blk (w2.alloc (.cells C95.toArray 186)) w2.heap.size 186 C95 := Blk.new w2 186 C95
        have hs4 : w.heap.size ≤ w2.heap.size := ((hk0.trans hk7).trans hk2).size
        generalize w2.alloc (.cells C95.toArray 186) = w3 at *
        generalize w2.heap.size = gb4 at *
        refine Late.take 5 (some 14) (.agg (G gb4)) rfl rfl (by kernel_rfl) (by kernel_rfl) (by kernel_rfl) (by kernel_rfl) (fun _ _ _ h => h) (by kernel_rfl) (fun W hSW => x_build rfl #[(0, .slice (some ⟨gb4, 0, none⟩) 0 0)] rfl (rb2 gb4 W)) trivial ?_
        try simp only [Act.put, List.setIfInBounds_toArray, List.set_cons_zero, List.set_cons_succ]
        refine Late.ready (rs := [10]) (by kernel_rfl) (by simp) ?_
        refine LateAll.cons rfl (fun K hK => ?_) (LateAll.nil)
        go_simp
        refine hK.out _ _ trivial (fun _ => ?_)
        clear hK K
        try simp only [Act.put, List.setIfInBounds_toArray, List.set_cons_zero, List.set_cons_succ]
        have hk10 : Kept w3 ((w3.alloc (XC w3)).drew) := ((Kept.refl _).alloc _).drew
        have hs10 : w.heap.size ≤ w3.heap.size := (((hk0.trans hk7).trans hk2).trans hk4).size
        generalize (w3.alloc (XC w3)).drew = w4 at *
        generalize w3.heap.size = gb10 at *
        generalize KC w3 = cp at *
        refine Late.take 11 (some 20) (.agg (H gb2 gb4 gb7 gb10 cp)) rfl rfl (by kernel_rfl) (by kernel_rfl) (by kernel_rfl) (by kernel_rfl) (fun _ _ _ h => h) (by kernel_rfl) (fun W hSW => x_build rfl #[(0, .pointer (some ⟨gb2, 0, none⟩)), (5, .agg (G gb4)), (6, .slice (some ⟨gb7, 0, none⟩) 2 2), (9, .string ⟨#[]⟩), (10, .slice (some ⟨gb10, 0, none⟩) 0 cp)] rfl (rb3 gb2 gb4 gb7 gb10 cp W)) trivial ?_
        try simp only [Act.put, List.setIfInBounds_toArray, List.set_cons_zero, List.set_cons_succ]
        refine Late.ready (rs := [12]) (by kernel_rfl) (by simp) ?_
        refine LateAll.cons rfl (fun K hK => ?_) (LateAll.nil)
        go_simp
        refine hK.out _ _ trivial (fun _ => ?_)
        clear hK K
        try simp only [Act.put, List.setIfInBounds_toArray, List.set_cons_zero, List.set_cons_succ]
        have hk12 : Kept w4 (w4.alloc (.cells (H gb2 gb4 gb7 gb10 cp) 123)) := (Kept.refl _).alloc _
        have hb12 : Blk (w4.alloc (.cells (H gb2 gb4 gb7 gb10 cp) 123)) w4.heap.size 123 (H gb2 gb4 gb7 gb10 cp).toList := by simpa using Blk.new w4 123 (H gb2 gb4 gb7 gb10 cp).toList
        have hs12 : w.heap.size ≤ w4.heap.size := ((((hk0.trans hk7).trans hk2).trans hk4).trans hk10).size
        generalize w4.alloc (.cells (H gb2 gb4 gb7 gb10 cp) 123) = w5 at *
        generalize w4.heap.size = gb12 at *
        refine Late.ready (rs := [13]) (by kernel_rfl) (by simp) ?_
        refine LateAll.last rfl (fun K hK => ?_)
        go_simp
        refine hK.out _ _ ?_
        clear hK K
        refine Late.done (by kernel_rfl) ?_ _
        try simp only [Act.put, List.setIfInBounds_toArray, List.set_cons_zero, List.set_cons_succ]
        go_wp2
        go_ret
        exact made_of (hk0.trans ((((hk7.trans hk2).trans hk4).trans hk10).trans hk12)) (hb2.kept ((hk4.trans hk10).trans hk12)) HA94.out (hb7.kept (((hk2.trans hk4).trans hk10).trans hk12)) HL104.out HZ104.out (hb12.kept (Kept.refl _)) (HH.out gb2 gb4 gb7 gb10 cp) hs2 hs7 hs12
      · skip
        go_simp
        refine hK.out _ _ trivial (fun _ => ?_)
        clear hK K
        try simp only [Act.put, List.setIfInBounds_toArray, List.set_cons_zero, List.set_cons_succ]
        have hk10 : Kept w2 ((w2.alloc (XC w2)).drew) := ((Kept.refl _).alloc _).drew
        have hs10 : w.heap.size ≤ w2.heap.size := ((hk0.trans hk7).trans hk2).size
        generalize (w2.alloc (XC w2)).drew = w3 at *
        generalize w2.heap.size = gb10 at *
        generalize KC w2 = cp at *
        refine Late.ready (rs := [4]) (by kernel_rfl) (by simp) ?_
        refine LateAll.cons rfl (fun K hK => ?_) (LateAll.nil)
        go_simp
        refine hK.out _ _ trivial (fun _ => ?_)
        clear hK K
        try simp only [Act.put, List.setIfInBounds_toArray, List.set_cons_zero, List.set_cons_succ]
        have hk4 : Kept w3 (w3.alloc (.cells C95.toArray 186)) := (Kept.refl _).alloc _
        have hb4 : Blk (w3.alloc (.cells C95.toArray 186)) w3.heap.size 186 C95 := Blk.new w3 186 C95
        have hs4 : w.heap.size ≤ w3.heap.size := (((hk0.trans hk7).trans hk2).trans hk10).size
        generalize w3.alloc (.cells C95.toArray 186) = w4 at *
        generalize w3.heap.size = gb4 at *
        refine Late.take 5 (some 14) (.agg (G gb4)) rfl rfl (by kernel_rfl) (by kernel_rfl) (by kernel_rfl) (by kernel_rfl) (fun _ _ _ h => h) (by kernel_rfl) (fun W hSW => x_build rfl #[(0, .slice (some ⟨gb4, 0, none⟩) 0 0)] rfl (rb2 gb4 W)) trivial ?_
        try simp only [Act.put, List.setIfInBounds_toArray, List.set_cons_zero, List.set_cons_succ]
        refine Late.take 11 (some 20) (.agg (H gb2 gb4 gb7 gb10 cp)) rfl rfl (by kernel_rfl) (by kernel_rfl) (by kernel_rfl) (by kernel_rfl) (fun _ _ _ h => h) (by kernel_rfl) (fun W hSW => x_build rfl #[(0, .pointer (some ⟨gb2, 0, none⟩)), (5, .agg (G gb4)), (6, .slice (some ⟨gb7, 0, none⟩) 2 2), (9, .string ⟨#[]⟩), (10, .slice (some ⟨gb10, 0, none⟩) 0 cp)] rfl (rb3 gb2 gb4 gb7 gb10 cp W)) trivial ?_
        try simp only [Act.put, List.setIfInBounds_toArray, List.set_cons_zero, List.set_cons_succ]
        refine Late.ready (rs := [12]) (by kernel_rfl) (by simp) ?_
        refine LateAll.cons rfl (fun K hK => ?_) (LateAll.nil)
        go_simp
        refine hK.out _ _ trivial (fun _ => ?_)
        clear hK K
        try simp only [Act.put, List.setIfInBounds_toArray, List.set_cons_zero, List.set_cons_succ]
        have hk12 : Kept w4 (w4.alloc (.cells (H gb2 gb4 gb7 gb10 cp) 123)) := (Kept.refl _).alloc _
        have hb12 : Blk (w4.alloc (.cells (H gb2 gb4 gb7 gb10 cp) 123)) w4.heap.size 123 (H gb2 gb4 gb7 gb10 cp).toList := by simpa using Blk.new w4 123 (H gb2 gb4 gb7 gb10 cp).toList
        have hs12 : w.heap.size ≤ w4.heap.size := ((((hk0.trans hk7).trans hk2).trans hk10).trans hk4).size
        generalize w4.alloc (.cells (H gb2 gb4 gb7 gb10 cp) 123) = w5 at *
        generalize w4.heap.size = gb12 at *
        refine Late.ready (rs := [13]) (by kernel_rfl) (by simp) ?_
        refine LateAll.last rfl (fun K hK => ?_)
        go_simp
        refine hK.out _ _ ?_
        clear hK K
        refine Late.done (by kernel_rfl) ?_ _
        try simp only [Act.put, List.setIfInBounds_toArray, List.set_cons_zero, List.set_cons_succ]
        go_wp2
        go_ret
        exact made_of (hk0.trans ((((hk7.trans hk2).trans hk10).trans hk4).trans hk12)) (hb2.kept ((hk10.trans hk4).trans hk12)) HA94.out (hb7.kept (((hk2.trans hk10).trans hk4).trans hk12)) HL104.out HZ104.out (hb12.kept (Kept.refl _)) (HH.out gb2 gb4 gb7 gb10 cp) hs2 hs7 hs12
    · skip
      go_simp
      refine hK.out _ _ trivial (fun _ => ?_)
      clear hK K
      try simp only [Act.put, List.setIfInBounds_toArray, List.set_cons_zero, List.set_cons_succ]
      have hk4 : Kept w1 (w1.alloc (.cells C95.toArray 186)) := (Kept.refl _).alloc _
      have hb4 : Blk (w1.alloc (.cells C95.toArray 186)) w1.heap.size 186 C95 := Blk.new w1 186 C95
      have hs4 : w.heap.size ≤ w1.heap.size := (hk0.trans hk7).size
      generalize w1.alloc (.cells C95.toArray 186) = w2 at *
      generalize w1.heap.size = gb4 at *
      refine Late.take 5 (some 14) (.agg (G gb4)) rfl rfl (by kernel_rfl) (by kernel_rfl) (by kernel_rfl) (by kernel_rfl) (fun _ _ _ h => h) (by kernel_rfl) (fun W hSW => x_build rfl #[(0, .slice (some ⟨gb4, 0, none⟩) 0 0)] rfl (rb2 gb4 W)) trivial ?_
      try simp only [Act.put, List.setIfInBounds_toArray, List.set_cons_zero, List.set_cons_succ]
      refine Late.ready (rs := [2, 10]) (by kernel_rfl) (by simp) ?_
      refine LateAll.cons rfl (fun K hK => ?_) (LateAll.cons rfl (fun K hK => ?_) (LateAll.nil))
      · skip
        go_simp
        refine hK.out _ _ trivial (fun _ => ?_)
        clear hK K
        try simp only [Act.put, List.setIfInBounds_toArray, List.set_cons_zero, List.set_cons_succ]
        have hk2 : Kept w2 (w2.alloc (.cells A94 94)) := (Kept.refl _).alloc _
        have hb2 : Blk (w2.alloc (.cells A94 94)) w2.heap.size 94 A94.toList := by simpa using Blk.new w2 94 A94.toList
        have hs2 : w.heap.size ≤ w2.heap.size := ((hk0.trans hk7).trans hk4).size
        generalize w2.alloc (.cells A94 94) = w3 at *
        generalize w2.heap.size = gb2 at *
        refine Late.ready (rs := [10]) (by kernel_rfl) (by simp) ?_
        refine LateAll.cons rfl (fun K hK => ?_) (LateAll.nil)
        go_simp
        refine hK.out _ _ trivial (fun _ => ?_)
        clear hK K
        try simp only [Act.put, List.setIfInBounds_toArray, List.set_cons_zero, List.set_cons_succ]
        have hk10 : Kept w3 ((w3.alloc (XC w3)).drew) := ((Kept.refl _).alloc _).drew
        have hs10 : w.heap.size ≤ w3.heap.size := (((hk0.trans hk7).trans hk4).trans hk2).size
        generalize (w3.alloc (XC w3)).drew = w4 at *
        generalize w3.heap.size = gb10 at *
        generalize KC w3 = cp at *
        refine Late.take 11 (some 20) (.agg (H gb2 gb4 gb7 gb10 cp)) rfl rfl (by kernel_rfl) (by kernel_rfl) (by kernel_rfl) (by kernel_rfl) (fun _ _ _ h => h) (by kernel_rfl) (fun W hSW => x_build rfl #[(0, .pointer (some ⟨gb2, 0, none⟩)), (5, .agg (G gb4)), (6, .slice (some ⟨gb7, 0, none⟩) 2 2), (9, .string ⟨#[]⟩), (10, .slice (some ⟨gb10, 0, none⟩) 0 cp)] rfl (rb3 gb2 gb4 gb7 gb10 cp W)) trivial ?_
        try simp only [Act.put, List.setIfInBounds_toArray, List.set_cons_zero, List.set_cons_succ]
        refine Late.ready (rs := [12]) (by kernel_rfl) (by simp) ?_
        refine LateAll.cons rfl (fun K hK => ?_) (LateAll.nil)
        go_simp
        refine hK.out _ _ trivial (fun _ => ?_)
        clear hK K
        try simp only [Act.put, List.setIfInBounds_toArray, List.set_cons_zero, List.set_cons_succ]
        have hk12 : Kept w4 (w4.alloc (.cells (H gb2 gb4 gb7 gb10 cp) 123)) := (Kept.refl _).alloc _
        have hb12 : Blk (w4.alloc (.cells (H gb2 gb4 gb7 gb10 cp) 123)) w4.heap.size 123 (H gb2 gb4 gb7 gb10 cp).toList := by simpa using Blk.new w4 123 (H gb2 gb4 gb7 gb10 cp).toList
        have hs12 : w.heap.size ≤ w4.heap.size := ((((hk0.trans hk7).trans hk4).trans hk2).trans hk10).size
        generalize w4.alloc (.cells (H gb2 gb4 gb7 gb10 cp) 123) = w5 at *
        generalize w4.heap.size = gb12 at *
        refine Late.ready (rs := [13]) (by kernel_rfl) (by simp) ?_
        refine LateAll.last rfl (fun K hK => ?_)
        go_simp
        refine hK.out _ _ ?_
        clear hK K
        refine Late.done (by kernel_rfl) ?_ _
        try simp only [Act.put, List.setIfInBounds_toArray, List.set_cons_zero, List.set_cons_succ]
        go_wp2
        go_ret
        exact made_of (hk0.trans ((((hk7.trans hk4).trans hk2).trans hk10).trans hk12)) (hb2.kept (hk10.trans hk12)) HA94.out (hb7.kept (((hk4.trans hk2).trans hk10).trans hk12)) HL104.out HZ104.out (hb12.kept (Kept.refl _)) (HH.out gb2 gb4 gb7 gb10 cp) hs2 hs7 hs12
      · skip
        go_simp
        refine hK.out _ _ trivial (fun _ => ?_)
        clear hK K
        try simp only [Act.put, List.setIfInBounds_toArray, List.set_cons_zero, List.set_cons_succ]
        have hk10 : Kept w2 ((w2.alloc (XC w2)).drew) := ((Kept.refl _).alloc _).drew
        have hs10 : w.heap.size ≤ w2.heap.size := ((hk0.trans hk7).trans hk4).size
        generalize (w2.alloc (XC w2)).drew = w3 at *
        generalize w2.heap.size = gb10 at *
        generalize KC w2 = cp at *
        refine Late.ready (rs := [2]) (by kernel_rfl) (by simp) ?_
        refine LateAll.cons rfl (fun K hK => ?_) (LateAll.nil)
        go_simp
        refine hK.out _ _ trivial (fun _ => ?_)
        clear hK K
        try simp only [Act.put, List.setIfInBounds_toArray, List.set_cons_zero, List.set_cons_succ]
        have hk2 : Kept w3 (w3.alloc (.cells A94 94)) := (Kept.refl _).alloc _
        have hb2 : Blk (w3.alloc (.cells A94 94)) w3.heap.size 94 A94.toList := by simpa using Blk.new w3 94 A94.toList
        have hs2 : w.heap.size ≤ w3.heap.size := (((hk0.trans hk7).trans hk4).trans hk10).size
        generalize w3.alloc (.cells A94 94) = w4 at *
        generalize w3.heap.size = gb2 at *
        refine Late.take 11 (some 20) (.agg (H gb2 gb4 gb7 gb10 cp)) rfl rfl (by kernel_rfl) (by kernel_rfl) (by kernel_rfl) (by kernel_rfl) (fun _ _ _ h => h) (by kernel_rfl) (fun W hSW => x_build rfl #[(0, .pointer (some ⟨gb2, 0, none⟩)), (5, .agg (G gb4)), (6, .slice (some ⟨gb7, 0, none⟩) 2 2), (9, .string ⟨#[]⟩), (10, .slice (some ⟨gb10, 0, none⟩) 0 cp)] rfl (rb3 gb2 gb4 gb7 gb10 cp W)) trivial ?_
        try simp only [Act.put, List.setIfInBounds_toArray, List.set_cons_zero, List.set_cons_succ]
        refine Late.ready (rs := [12]) (by kernel_rfl) (by simp) ?_
        refine LateAll.cons rfl (fun K hK => ?_) (LateAll.nil)
        go_simp
        refine hK.out _ _ trivial (fun _ => ?_)
        clear hK K
        try simp only [Act.put, List.setIfInBounds_toArray, List.set_cons_zero, List.set_cons_succ]
        have hk12 : Kept w4 (w4.alloc (.cells (H gb2 gb4 gb7 gb10 cp) 123)) := (Kept.refl _).alloc _
        have hb12 : Blk (w4.alloc (.cells (H gb2 gb4 gb7 gb10 cp) 123)) w4.heap.size 123 (H gb2 gb4 gb7 gb10 cp).toList := by simpa using Blk.new w4 123 (H gb2 gb4 gb7 gb10 cp).toList
        have hs12 : w.heap.size ≤ w4.heap.size := ((((hk0.trans hk7).trans hk4).trans hk10).trans hk2).size
        generalize w4.alloc (.cells (H gb2 gb4 gb7 gb10 cp) 123) = w5 at *
        generalize w4.heap.size = gb12 at *
        refine Late.ready (rs := [13]) (by kernel_rfl) (by simp) ?_
        refine LateAll.last rfl (fun K hK => ?_)
        go_simp
        refine hK.out _ _ ?_
        clear hK K
        refine Late.done (by kernel_rfl) ?_ _
        try simp only [Act.put, List.setIfInBounds_toArray, List.set_cons_zero, List.set_cons_succ]
        go_wp2
        go_ret
        exact made_of (hk0.trans ((((hk7.trans hk4).trans hk10).trans hk2).trans hk12)) (hb2.kept hk12) HA94.out (hb7.kept (((hk4.trans hk10).trans hk2).trans hk12)) HL104.out HZ104.out (hb12.kept (Kept.refl _)) (HH.out gb2 gb4 gb7 gb10 cp) hs2 hs7 hs12
    · skip
      go_simp
      refine hK.out _ _ trivial (fun _ => ?_)
      clear hK K
      try simp only [Act.put, List.setIfInBounds_toArray, List.set_cons_zero, List.set_cons_succ]
      have hk10 : Kept w1 ((w1.alloc (XC w1)).drew) := ((Kept.refl _).alloc _).drew
      have hs10 : w.heap.size ≤ w1.heap.size := (hk0.trans hk7).size
      generalize (w1.alloc (XC w1)).drew = w2 at *
      generalize w1.heap.size = gb10 at *
      generalize KC w1 = cp at *
      refine Late.ready (rs := [2, 4]) (by kernel_rfl) (by simp) ?_
      refine LateAll.cons rfl (fun K hK => ?_) (LateAll.cons rfl (fun K hK => ?_) (LateAll.nil))
      · skip
        go_simp
        refine hK.out _ _ trivial (fun _ => ?_)
        clear hK K
        try simp only [Act.put, List.setIfInBounds_toArray, List.set_cons_zero, List.set_cons_succ]
        have hk2 : Kept w2 (w2.alloc (.cells A94 94)) := (Kept.refl _).alloc _
        have hb2 : Blk (w2.alloc (.cells A94 94)) w2.heap.size 94 A94.toList := by simpa using Blk.new w2 94 A94.toList
        have hs2 : w.heap.size ≤ w2.heap.size := ((hk0.trans hk7).trans hk10).size
        generalize w2.alloc (.cells A94 94) = w3 at *
        generalize w2.heap.size = gb2 at *
        refine Late.ready (rs := [4]) (by kernel_rfl) (by simp) ?_
        refine LateAll.cons rfl (fun K hK => ?_) (LateAll.nil)
        go_simp
        refine hK.out _ _ trivial (fun _ => ?_)
        clear hK K
        try simp only [Act.put, List.setIfInBounds_toArray, List.set_cons_zero, List.set_cons_succ]
        have hk4 : Kept w3 (w3.alloc (.cells C95.toArray 186)) := (Kept.refl _).alloc _
        have hb4 : Blk (w3.alloc (.cells C95.toArray 186)) w3.heap.size 186 C95 := Blk.new w3 186 C95
        have hs4 : w.heap.size ≤ w3.heap.size := (((hk0.trans hk7).trans hk10).trans hk2).size
        generalize w3.alloc (.cells C95.toArray 186) = w4 at *
        generalize w3.heap.size = gb4 at *
        refine Late.take 5 (some 14) (.agg (G gb4)) rfl rfl (by kernel_rfl) (by kernel_rfl) (by kernel_rfl) (by kernel_rfl) (fun _ _ _ h => h) (by kernel_rfl) (fun W hSW => x_build rfl #[(0, .slice (some ⟨gb4, 0, none⟩) 0 0)] rfl (rb2 gb4 W)) trivial ?_
        try simp only [Act.put, List.setIfInBounds_toArray, List.set_cons_zero, List.set_cons_succ]
        refine Late.take 11 (some 20) (.agg (H gb2 gb4 gb7 gb10 cp)) rfl rfl (by kernel_rfl) (by kernel_rfl) (by kernel_rfl) (by kernel_rfl) (fun _ _ _ h => h) (by kernel_rfl) (fun W hSW => x_build rfl #[(0, .pointer (some ⟨gb2, 0, none⟩)), (5, .agg (G gb4)), (6, .slice (some ⟨gb7, 0, none⟩) 2 2), (9, .string ⟨#[]⟩), (10, .slice (some ⟨gb10, 0, none⟩) 0 cp)] rfl (rb3 gb2 gb4 gb7 gb10 cp W)) trivial ?_
        try simp only [Act.put, List.setIfInBounds_toArray, List.set_cons_zero, List.set_cons_succ]
        refine Late.ready (rs := [12]) (by kernel_rfl) (by simp) ?_
        refine LateAll.cons rfl (fun K hK => ?_) (LateAll.nil)
        go_simp
        refine hK.out _ _ trivial (fun _ => ?_)
        clear hK K
        try simp only [Act.put, List.setIfInBounds_toArray, List.set_cons_zero, List.set_cons_succ]
        have hk12 : Kept w4 (w4.alloc (.cells (H gb2 gb4 gb7 gb10 cp) 123)) := (Kept.refl _).alloc _
        have hb12 : Blk (w4.alloc (.cells (H gb2 gb4 gb7 gb10 cp) 123)) w4.heap.size 123 (H gb2 gb4 gb7 gb10 cp).toList := by simpa using Blk.new w4 123 (H gb2 gb4 gb7 gb10 cp).toList
        have hs12 : w.heap.size ≤ w4.heap.size := ((((hk0.trans hk7).trans hk10).trans hk2).trans hk4).size
        generalize w4.alloc (.cells (H gb2 gb4 gb7 gb10 cp) 123) = w5 at *
        generalize w4.heap.size = gb12 at *
        refine Late.ready (rs := [13]) (by kernel_rfl) (by simp) ?_
        refine LateAll.last rfl (fun K hK => ?_)
        go_simp
        refine hK.out _ _ ?_
        clear hK K
        refine Late.done (by kernel_rfl) ?_ _
        try simp only [Act.put, List.setIfInBounds_toArray, List.set_cons_zero, List.set_cons_succ]
        go_wp2
        go_ret
        exact made_of (hk0.trans ((((hk7.trans hk10).trans hk2).trans hk4).trans hk12)) (hb2.kept (hk4.trans hk12)) HA94.out (hb7.kept (((hk10.trans hk2).trans hk4).trans hk12)) HL104.out HZ104.out (hb12.kept (Kept.refl _)) (HH.out gb2 gb4 gb7 gb10 cp) hs2 hs7 hs12
      · skip
        go_simp
        refine hK.out _ _ trivial (fun _ => ?_)
        clear hK K
        try simp only [Act.put, List.setIfInBounds_toArray, List.set_cons_zero, List.set_cons_succ]
        have hk4 : Kept w2 (w2.alloc (.cells C95.toArray 186)) := (Kept.refl _).alloc _
        have hb4 : Blk (w2.alloc (.cells C95.toArray 186)) w2.heap.size 186 C95 := Blk.new w2 186 C95
        have hs4 : w.heap.size ≤ w2.heap.size := ((hk0.trans hk7).trans hk10).size
        generalize w2.alloc (.cells C95.toArray 186) = w3 at *
        generalize w2.heap.size = gb4 at *
        refine Late.take 5 (some 14) (.agg (G gb4)) rfl rfl (by kernel_rfl) (by kernel_rfl) (by kernel_rfl) (by kernel_rfl) (fun _ _ _ h => h) (by kernel_rfl) (fun W hSW => x_build rfl #[(0, .slice (some ⟨gb4, 0, none⟩) 0 0)] rfl (rb2 gb4 W)) trivial ?_
        try simp only [Act.put, List.setIfInBounds_toArray, List.set_cons_zero, List.set_cons_succ]
        refine Late.ready (rs := [2]) (by kernel_rfl) (by simp) ?_
        refine LateAll.cons rfl (fun K hK => ?_) (LateAll.nil)
        go_simp
        refine hK.out _ _ trivial (fun _ => ?_)
        clear hK K
        try simp only [Act.put, List.setIfInBounds_toArray, List.set_cons_zero, List.set_cons_succ]
        have hk2 : Kept w3 (w3.alloc (.cells A94 94)) := (Kept.refl _).alloc _
        have hb2 : Blk (w3.alloc (.cells A94 94)) w3.heap.size 94 A94.toList := by simpa using Blk.new w3 94 A94.toList
        have hs2 : w.heap.size ≤ w3.heap.size := (((hk0.trans hk7).trans hk10).trans hk4).size
        generalize w3.alloc (.cells A94 94) = w4 at *
        generalize w3.heap.size = gb2 at *
        refine Late.take 11 (some 20) (.agg (H gb2 gb4 gb7 gb10 cp)) rfl rfl (by kernel_rfl) (by kernel_rfl) (by kernel_rfl) (by kernel_rfl) (fun _ _ _ h => h) (by kernel_rfl) (fun W hSW => x_build rfl #[(0, .pointer (some ⟨gb2, 0, none⟩)), (5, .agg (G gb4)), (6, .slice (some ⟨gb7, 0, none⟩) 2 2), (9, .string ⟨#[]⟩), (10, .slice (some ⟨gb10, 0, none⟩) 0 cp)] rfl (rb3 gb2 gb4 gb7 gb10 cp W)) trivial ?_
        try simp only [Act.put, List.setIfInBounds_toArray, List.set_cons_zero, List.set_cons_succ]
        refine Late.ready (rs := [12]) (by kernel_rfl) (by simp) ?_
        refine LateAll.cons rfl (fun K hK => ?_) (LateAll.nil)
        go_simp
        refine hK.out _ _ trivial (fun _ => ?_)
        clear hK K
        try simp only [Act.put, List.setIfInBounds_toArray, List.set_cons_zero, List.set_cons_succ]
        have hk12 : Kept w4 (w4.alloc (.cells (H gb2 gb4 gb7 gb10 cp) 123)) := (Kept.refl _).alloc _
        have hb12 : Blk (w4.alloc (.cells (H gb2 gb4 gb7 gb10 cp) 123)) w4.heap.size 123 (H gb2 gb4 gb7 gb10 cp).toList := by simpa using Blk.new w4 123 (H gb2 gb4 gb7 gb10 cp).toList
        have hs12 : w.heap.size ≤ w4.heap.size := ((((hk0.trans hk7).trans hk10).trans hk4).trans hk2).size
        generalize w4.alloc (.cells (H gb2 gb4 gb7 gb10 cp) 123) = w5 at *
        generalize w4.heap.size = gb12 at *
        refine Late.ready (rs := [13]) (by kernel_rfl) (by simp) ?_
        refine LateAll.last rfl (fun K hK => ?_)
        go_simp
        refine hK.out _ _ ?_
        clear hK K
        refine Late.done (by kernel_rfl) ?_ _
        try simp only [Act.put, List.setIfInBounds_toArray, List.set_cons_zero, List.set_cons_succ]
        go_wp2
        go_ret
        exact made_of (hk0.trans ((((hk7.trans hk10).trans hk4).trans hk2).trans hk12)) (hb2.kept hk12) HA94.out (hb7.kept (((hk10.trans hk4).trans hk2).trans hk12)) HL104.out HZ104.out (hb12.kept (Kept.refl _)) (HH.out gb2 gb4 gb7 gb10 cp) hs2 hs7 hs12
  · skip
    go_simp
    refine hK.out _ _ trivial (fun _ => ?_)
    clear hK K
    try simp only [Act.put, List.setIfInBounds_toArray, List.set_cons_zero, List.set_cons_succ]
    have hk10 : Kept w0 ((w0.alloc (XC w0)).drew) := ((Kept.refl _).alloc _).drew
    have hs10 : w.heap.size ≤ w0.heap.size := hk0.size
    generalize (w0.alloc (XC w0)).drew = w1 at *
    generalize w0.heap.size = gb10 at *
    generalize KC w0 = cp at *
    refine Late.ready (rs := [2, 4, 7]) (by kernel_rfl) (by simp) ?_
    refine LateAll.cons rfl (fun K hK => ?_) (LateAll.cons rfl (fun K hK => ?_) (LateAll.cons rfl (fun K hK => ?_) (LateAll.nil)))
    · skip
      go_simp
      refine hK.out _ _ trivial (fun _ => ?_)
      clear hK K
      try simp only [Act.put, List.setIfInBounds_toArray, List.set_cons_zero, List.set_cons_succ]
      have hk2 : Kept w1 (w1.alloc (.cells A94 94)) := (Kept.refl _).alloc _
      have hb2 : Blk (w1.alloc (.cells A94 94)) w1.heap.size 94 A94.toList := by simpa using Blk.new w1 94 A94.toList
      have hs2 : w.heap.size ≤ w1.heap.size := (hk0.trans hk10).size
      generalize w1.alloc (.cells A94 94) = w2 at *
      generalize w1.heap.size = gb2 at *
      refine Late.ready (rs := [4, 7]) (by kernel_rfl) (by simp) ?_
      refine LateAll.cons rfl (fun K hK => ?_) (LateAll.cons rfl (fun K hK => ?_) (LateAll.nil))
      · skip
        go_simp
        refine hK.out _ _ trivial (fun _ => ?_)
        clear hK K
        try simp only [Act.put, List.setIfInBounds_toArray, List.set_cons_zero, List.set_cons_succ]
        have hk4 : Kept w2 (w2.alloc (.cells C95.toArray 186)) := (Kept.refl _).alloc _
        have hb4 : Blk (w2.alloc (.cells C95.toArray 186)) w2.heap.size 186 C95 := Blk.new w2 186 C95
        have hs4 : w.heap.size ≤ w2.heap.size := ((hk0.trans hk10).trans hk2).size
        generalize w2.alloc (.cells C95.toArray 186) = w3 at *
        generalize w2.heap.size = gb4 at *
        refine Late.take 5 (some 14) (.agg (G gb4)) rfl rfl (by kernel_rfl) (by kernel_rfl) (by kernel_rfl) (by kernel_rfl) (fun _ _ _ h => h) (by kernel_rfl) (fun W hSW => x_build rfl #[(0, .slice (some ⟨gb4, 0, none⟩) 0 0)] rfl (rb2 gb4 W)) trivial ?_
        try simp only [Act.put, List.setIfInBounds_toArray, List.set_cons_zero, List.set_cons_succ]
        refine Late.ready (rs := [7]) (by kernel_rfl) (by simp) ?_
        refine LateAll.cons rfl (fun K hK => ?_) (LateAll.nil)
        go_simp
        refine hK.out _ _ trivial (fun _ => ?_)
        clear hK K
        try simp only [Act.put, List.setIfInBounds_toArray, List.set_cons_zero, List.set_cons_succ]
        have hk7 : Kept w3 (w3.alloc (.cells C104.toArray 146)) := (Kept.refl _).alloc _
        have hb7 : Blk (w3.alloc (.cells C104.toArray 146)) w3.heap.size 146 C104 := Blk.new w3 146 C104
        have hs7 : w.heap.size ≤ w3.heap.size := (((hk0.trans hk10).trans hk2).trans hk4).size
        generalize w3.alloc (.cells C104.toArray 146) = w4 at *
        generalize w3.heap.size = gb7 at *
        refine Late.take 11 (some 20) (.agg (H gb2 gb4 gb7 gb10 cp)) rfl rfl (by kernel_rfl) (by kernel_rfl) (by kernel_rfl) (by kernel_rfl) (fun _ _ _ h => h) (by kernel_rfl) (fun W hSW => x_build rfl #[(0, .pointer (some ⟨gb2, 0, none⟩)), (5, .agg (G gb4)), (6, .slice (some ⟨gb7, 0, none⟩) 2 2), (9, .string ⟨#[]⟩), (10, .slice (some ⟨gb10, 0, none⟩) 0 cp)] rfl (rb3 gb2 gb4 gb7 gb10 cp W)) trivial ?_
        try simp only [Act.put, List.setIfInBounds_toArray, List.set_cons_zero, List.set_cons_succ]
        refine Late.ready (rs := [12]) (by kernel_rfl) (by simp) ?_
        refine LateAll.cons rfl (fun K hK => ?_) (LateAll.nil)
        go_simp
        refine hK.out _ _ trivial (fun _ => ?_)
        clear hK K
        try simp only [Act.put, List.setIfInBounds_toArray, List.set_cons_zero, List.set_cons_succ]
        have hk12 : Kept w4 (w4.alloc (.cells (H gb2 gb4 gb7 gb10 cp) 123)) := (Kept.refl _).alloc _
        have hb12 : Blk (w4.alloc (.cells (H gb2 gb4 gb7 gb10 cp) 123)) w4.heap.size 123 (H gb2 gb4 gb7 gb10 cp).toList := by simpa using Blk.new w4 123 (H gb2 gb4 gb7 gb10 cp).toList
        have hs12 : w.heap.size ≤ w4.heap.size := ((((hk0.trans hk10).trans hk2).trans hk4).trans hk7).size
        generalize w4.alloc (.cells (H gb2 gb4 gb7 gb10 cp) 123) = w5 at *
        generalize w4.heap.size = gb12 at *
        refine Late.ready (rs := [13]) (by kernel_rfl) (by simp) ?_
        refine LateAll.last rfl (fun K hK => ?_)
        go_simp
        refine hK.out _ _ ?_
        clear hK K
        refine Late.done (by kernel_rfl) ?_ _
        try simp only [Act.put, List.setIfInBounds_toArray, List.set_cons_zero, List.set_cons_succ]
        go_wp2
        go_ret
        exact made_of (hk0.trans ((((hk10.trans hk2).trans hk4).trans hk7).trans hk12)) (hb2.kept ((hk4.trans hk7).trans hk12)) HA94.out (hb7.kept hk12) HL104.out HZ104.out (hb12.kept (Kept.refl _)) (HH.out gb2 gb4 gb7 gb10 cp) hs2 hs7 hs12
      · skip
        go_simp
        refine hK.out _ _ trivial (fun _ => ?_)
        clear hK K
        try simp only [Act.put, List.setIfInBounds_toArray, List.set_cons_zero, List.set_cons_succ]
        have hk7 : Kept w2 (w2.alloc (.cells C104.toArray 146)) := (Kept.refl _).alloc _
        have hb7 : Blk (w2.alloc (.cells C104.toArray 146)) w2.heap.size 146 C104 := Blk.new w2 146 C104
        have hs7 : w.heap.size ≤ w2.heap.size := ((hk0.trans hk10).trans hk2).size
        generalize w2.alloc (.cells C104.toArray 146) = w3 at *
        generalize w2.heap.size = gb7 at *
        refine Late.ready (rs := [4]) (by kernel_rfl) (by simp) ?_
        refine LateAll.cons rfl (fun K hK => ?_) (LateAll.nil)
        go_simp
        refine hK.out _ _ trivial (fun _ => ?_)
        clear hK K
        try simp only [Act.put, List.setIfInBounds_toArray, List.set_cons_zero, List.set_cons_succ]
        have hk4 : Kept w3 (w3.alloc (.cells C95.toArray 186)) := (Kept.refl _).alloc _
        have hb4 : Blk (w3.alloc (.cells C95.toArray 186)) w3.heap.size 186 C95 := Blk.new w3 186 C95
        have hs4 : w.heap.size ≤ w3.heap.size := (((hk0.trans hk10).trans hk2).trans hk7).size
        generalize w3.alloc (.cells C95.toArray 186) = w4 at *
        generalize w3.heap.size = gb4 at *
        refine Late.take 5 (some 14) (.agg (G gb4)) rfl rfl (by kernel_rfl) (by kernel_rfl) (by kernel_rfl) (by kernel_rfl) (fun _ _ _ h => h) (by kernel_rfl) (fun W hSW => x_build rfl #[(0, .slice (some ⟨gb4, 0, none⟩) 0 0)] rfl (rb2 gb4 W)) trivial ?_
        try simp only [Act.put, List.setIfInBounds_toArray, List.set_cons_zero, List.set_cons_succ]
        refine Late.take 11 (some 20) (.agg (H gb2 gb4 gb7 gb10 cp)) rfl rfl (by kernel_rfl) (by kernel_rfl) (by kernel_rfl) (by kernel_rfl) (fun _ _ _ h => h) (by kernel_rfl) (fun W hSW => x_build rfl #[(0, .pointer (some ⟨gb2, 0, none⟩)), (5, .agg (G gb4)), (6, .slice (some ⟨gb7, 0, none⟩) 2 2), (9, .string ⟨#[]⟩), (10, .slice (some ⟨gb10, 0, none⟩) 0 cp)] rfl (rb3 gb2 gb4 gb7 gb10 cp W)) trivial ?_
        try simp only [Act.put, List.setIfInBounds_toArray, List.set_cons_zero, List.set_cons_succ]
        refine Late.ready (rs := [12]) (by kernel_rfl) (by simp) ?_
        refine LateAll.cons rfl (fun K hK => ?_) (LateAll.nil)
        go_simp
        refine hK.out _ _ trivial (fun _ => ?_)
        clear hK K
        try simp only [Act.put, List.setIfInBounds_toArray, List.set_cons_zero, List.set_cons_succ]
        have hk12 : Kept w4 (w4.alloc (.cells (H gb2 gb4 gb7 gb10 cp) 123)) := (Kept.refl _).alloc _
        have hb12 : Blk (w4.alloc (.cells (H gb2 gb4 gb7 gb10 cp) 123)) w4.heap.size 123 (H gb2 gb4 gb7 gb10 cp).toList := by simpa using Blk.new w4 123 (H gb2 gb4 gb7 gb10 cp).toList
        have hs12 : w.heap.size ≤ w4.heap.size := ((((hk0.trans hk10).trans hk2).trans hk7).trans hk4).size
        generalize w4.alloc (.cells (H gb2 gb4 gb7 gb10 cp) 123) = w5 at *
        generalize w4.heap.size = gb12 at *
        refine Late.ready (rs := [13]) (by kernel_rfl) (by simp) ?_
        refine LateAll.last rfl (fun K hK => ?_)
        go_simp
        refine hK.out _ _ ?_
        clear hK K
        refine Late.done (by kernel_rfl) ?_ _
        try simp only [Act.put, List.setIfInBounds_toArray, List.set_cons_zero, List.set_cons_succ]
        go_wp2
        go_ret
        exact made_of (hk0.trans ((((hk10.trans hk2).trans hk7).trans hk4).trans hk12)) (hb2.kept ((hk7.trans hk4).trans hk12)) HA94.out (hb7.kept (hk4.trans hk12)) HL104.out HZ104.out (hb12.kept (Kept.refl _)) (HH.out gb2 gb4 gb7 gb10 cp) hs2 hs7 hs12
    · skip
      go_simp
      refine hK.out _ _ trivial (fun _ => ?_)
      clear hK K
      try simp only [Act.put, List.setIfInBounds_toArray, List.set_cons_zero, List.set_cons_succ]
      have hk4 : Kept w1 (w1.alloc (.cells C95.toArray 186)) := (Kept.refl _).alloc _
      have hb4 : Blk (w1.alloc (.cells C95.toArray 186)) w1.heap.size 186 C95 := Blk.new w1 186 C95
      have hs4 : w.heap.size ≤ w1.heap.size := (hk0.trans hk10).size
      generalize w1.alloc (.cells C95.toArray 186) = w2 at *
      generalize w1.heap.size = gb4 at *
      refine Late.take 5 (some 14) (.agg (G gb4)) rfl rfl (by kernel_rfl) (by kernel_rfl) (by kernel_rfl) (by kernel_rfl) (fun _ _ _ h => h) (by kernel_rfl) (fun W hSW => x_build rfl #[(0, .slice (some ⟨gb4, 0, none⟩) 0 0)] rfl (rb2 gb4 W)) trivial ?_
      try simp only [Act.put, List.setIfInBounds_toArray, List.set_cons_zero, List.set_cons_succ]
      refine Late.ready (rs := [2, 7]) (by kernel_rfl) (by simp) ?_
      refine LateAll.cons rfl (fun K hK => ?_) (LateAll.cons rfl (fun K hK => ?_) (LateAll.nil))
      · skip
        go_simp
        refine hK.out _ _ trivial (fun _ => ?_)
        clear hK K
        try simp only [Act.put, List.setIfInBounds_toArray, List.set_cons_zero, List.set_cons_succ]
        have hk2 : Kept w2 (w2.alloc (.cells A94 94)) := (Kept.refl _).alloc _
        have hb2 : Blk (w2.alloc (.cells A94 94)) w2.heap.size 94 A94.toList := by simpa using Blk.new w2 94 A94.toList
        have hs2 : w.heap.size ≤ w2.heap.size := ((hk0.trans hk10).trans hk4).size
        generalize w2.alloc (.cells A94 94) = w3 at *
        generalize w2.heap.size = gb2 at *
        refine Late.ready (rs := [7]) (by kernel_rfl) (by simp) ?_
        refine LateAll.cons rfl (fun K hK => ?_) (LateAll.nil)
        go_simp
        refine hK.out _ _ trivial (fun _ => ?_)
        clear hK K
        try simp only [Act.put, List.setIfInBounds_toArray, List.set_cons_zero, List.set_cons_succ]
        have hk7 : Kept w3 (w3.alloc (.cells C104.toArray 146)) := (Kept.refl _).alloc _
        have hb7 : Blk (w3.alloc (.cells C104.toArray 146)) w3.heap.size 146 C104 := Blk.new w3 146 C104
        have hs7 : w.heap.size ≤ w3.heap.size := (((hk0.trans hk10).trans hk4).trans hk2).size
        generalize w3.alloc (.cells C104.toArray 146) = w4 at *
        generalize w3.heap.size = gb7 at *
        refine Late.take 11 (some 20) (.agg (H gb2 gb4 gb7 gb10 cp)) rfl rfl (by kernel_rfl) (by kernel_rfl) (by kernel_rfl) (by kernel_rfl) (fun _ _ _ h => h) (by kernel_rfl) (fun W hSW => x_build rfl #[(0, .pointer (some ⟨gb2, 0, none⟩)), (5, .agg (G gb4)), (6, .slice (some ⟨gb7, 0, none⟩) 2 2), (9, .string ⟨#[]⟩), (10, .slice (some ⟨gb10, 0, none⟩) 0 cp)] rfl (rb3 gb2 gb4 gb7 gb10 cp W)) trivial ?_
        try simp only [Act.put, List.setIfInBounds_toArray, List.set_cons_zero, List.set_cons_succ]
        refine Late.ready (rs := [12]) (by kernel_rfl) (by simp) ?_
        refine LateAll.cons rfl (fun K hK => ?_) (LateAll.nil)
        go_simp
        refine hK.out _ _ trivial (fun _ => ?_)
        clear hK K
        try simp only [Act.put, List.setIfInBounds_toArray, List.set_cons_zero, List.set_cons_succ]
        have hk12 : Kept w4 (w4.alloc (.cells (H gb2 gb4 gb7 gb10 cp) 123)) := (Kept.refl _).alloc _
        have hb12 : Blk (w4.alloc (.cells (H gb2 gb4 gb7 gb10 cp) 123)) w4.heap.size 123 (H gb2 gb4 gb7 gb10 cp).toList := by simpa using Blk.new w4 123 (H gb2 gb4 gb7 gb10 cp).toList
        have hs12 : w.heap.size ≤ w4.heap.size := ((((hk0.trans hk10).trans hk4).trans hk2).trans hk7).size
        generalize w4.alloc (.cells (H gb2 gb4 gb7 gb10 cp) 123) = w5 at *
        generalize w4.heap.size = gb12 at *
        refine Late.ready (rs := [13]) (by kernel_rfl) (by simp) ?_
        refine LateAll.last rfl (fun K hK => ?_)
        go_simp
        refine hK.out _ _ ?_
        clear hK K
        refine Late.done (by kernel_rfl) ?_ _
        try simp only [Act.put, List.setIfInBounds_toArray, List.set_cons_zero, List.set_cons_succ]
        go_wp2
        go_ret
        exact made_of (hk0.trans ((((hk10.trans hk4).trans hk2).trans hk7).trans hk12)) (hb2.kept (hk7.trans hk12)) HA94.out (hb7.kept hk12) HL104.out HZ104.out (hb12.kept (Kept.refl _)) (HH.out gb2 gb4 gb7 gb10 cp) hs2 hs7 hs12
      · skip
        go_simp
        refine hK.out _ _ trivial (fun _ => ?_)
        clear hK K
        try simp only [Act.put, List.setIfInBounds_toArray, List.set_cons_zero, List.set_cons_succ]
        have hk7 : Kept w2 (w2.alloc (.cells C104.toArray 146)) := (Kept.refl _).alloc _
        have hb7 : Blk (w2.alloc (.cells C104.toArray 146)) w2.heap.size 146 C104 := Blk.new w2 146 C104
        have hs7 : w.heap.size ≤ w2.heap.size := ((hk0.trans hk10).trans hk4).size
        generalize w2.alloc (.cells C104.toArray 146) = w3 at *
        generalize w2.heap.size = gb7 at *
        refine Late.ready (rs := [2]) (by kernel_rfl) (by simp) ?_
        refine LateAll.cons rfl (fun K hK => ?_) (LateAll.nil)
        go_simp
        refine hK.out _ _ trivial (fun _ => ?_)
        clear hK K
        try simp only [Act.put, List.setIfInBounds_toArray, List.set_cons_zero, List.set_cons_succ]
        have hk2 : Kept w3 (w3.alloc (.cells A94 94)) := (Kept.refl _).alloc _
        have hb2 : Blk (w3.alloc (.cells A94 94)) w3.heap.size 94 A94.toList := by simpa using Blk.new w3 94 A94.toList
        have hs2 : w.heap.size ≤ w3.heap.size := (((hk0.trans hk10).trans hk4).trans hk7).size
        generalize w3.alloc (.cells A94 94) = w4 at *
        generalize w3.heap.size = gb2 at *
        refine Late.take 11 (some 20) (.agg (H gb2 gb4 gb7 gb10 cp)) rfl rfl (by kernel_rfl) (by kernel_rfl) (by kernel_rfl) (by kernel_rfl) (fun _ _ _ h => h) (by kernel_rfl) (fun W hSW => x_build rfl #[(0, .pointer (some ⟨gb2, 0, none⟩)), (5, .agg (G gb4)), (6, .slice (some ⟨gb7, 0, none⟩) 2 2), (9, .string ⟨#[]⟩), (10, .slice (some ⟨gb10, 0, none⟩) 0 cp)] rfl (rb3 gb2 gb4 gb7 gb10 cp W)) trivial ?_
        try simp only [Act.put, List.setIfInBounds_toArray, List.set_cons_zero, List.set_cons_succ]
        refine Late.ready (rs := [12]) (by kernel_rfl) (by simp) ?_
        refine LateAll.cons rfl (fun K hK => ?_) (LateAll.nil)
        go_simp
        refine hK.out _ _ trivial (fun _ => ?_)
        clear hK K
        try simp only [Act.put, List.setIfInBounds_toArray, List.set_cons_zero, List.set_cons_succ]
        have hk12 : Kept w4 (w4.alloc (.cells (H gb2 gb4 gb7 gb10 cp) 123)) := (Kept.refl _).alloc _
        have hb12 : Blk (w4.alloc (.cells (H gb2 gb4 gb7 gb10 cp) 123)) w4.heap.size 123 (H gb2 gb4 gb7 gb10 cp).toList := by simpa using Blk.new w4 123 (H gb2 gb4 gb7 gb10 cp).toList
        have hs12 : w.heap.size ≤ w4.heap.size := ((((hk0.trans hk10).trans hk4).trans hk7).trans hk2).size
        generalize w4.alloc (.cells (H gb2 gb4 gb7 gb10 cp) 123) = w5 at *
        generalize w4.heap.size = gb12 at *
        refine Late.ready (rs := [13]) (by kernel_rfl) (by simp) ?_
        refine LateAll.last rfl (fun K hK => ?_)
        go_simp
        refine hK.out _ _ ?_
        clear hK K
        refine Late.done (by kernel_rfl) ?_ _
        try simp only [Act.put, List.setIfInBounds_toArray, List.set_cons_zero, List.set_cons_succ]
        go_wp2
        go_ret
        exact made_of (hk0.trans ((((hk10.trans hk4).trans hk7).trans hk2).trans hk12)) (hb2.kept hk12) HA94.out (hb7.kept (hk2.trans hk12)) HL104.out HZ104.out (hb12.kept (Kept.refl _)) (HH.out gb2 gb4 gb7 gb10 cp) hs2 hs7 hs12
    · skip
      go_simp
      refine hK.out _ _ trivial (fun _ => ?_)
      clear hK K
      try simp only [Act.put, List.setIfInBounds_toArray, List.set_cons_zero, List.set_cons_succ]
      have hk7 : Kept w1 (w1.alloc (.cells C104.toArray 146)) := (Kept.refl _).alloc _
      have hb7 : Blk (w1.alloc (.cells C104.toArray 146)) w1.heap.size 146 C104 := Blk.new w1 146 C104
      have hs7 : w.heap.size ≤ w1.heap.size := (hk0.trans hk10).size
      generalize w1.alloc (.cells C104.toArray 146) = w2 at *
      generalize w1.heap.size = gb7 at *
      refine Late.ready (rs := [2, 4]) (by kernel_rfl) (by simp) ?_
      refine LateAll.cons rfl (fun K hK => ?_) (LateAll.cons rfl (fun K hK => ?_) (LateAll.nil))
      · skip
        go_simp
        refine hK.out _ _ trivial (fun _ => ?_)
        clear hK K
        try simp only [Act.put, List.setIfInBounds_toArray, List.set_cons_zero, List.set_cons_succ]
        have hk2 : Kept w2 (w2.alloc (.cells A94 94)) := (Kept.refl _).alloc _
        have hb2 : Blk (w2.alloc (.cells A94 94)) w2.heap.size 94 A94.toList := by simpa using Blk.new w2 94 A94.toList
        have hs2 : w.heap.size ≤ w2.heap.size := ((hk0.trans hk10).trans hk7).size
        generalize w2.alloc (.cells A94 94) = w3 at *
        generalize w2.heap.size = gb2 at *
        refine Late.ready (rs := [4]) (by kernel_rfl) (by simp) ?_
        refine LateAll.cons rfl (fun K hK => ?_) (LateAll.nil)
        go_simp
        refine hK.out _ _ trivial (fun _ => ?_)
        clear hK K
        try simp only [Act.put, List.setIfInBounds_toArray, List.set_cons_zero, List.set_cons_succ]
        have hk4 : Kept w3 (w3.alloc (.cells C95.toArray 186)) := (Kept.refl _).alloc _
        have hb4 : Blk (w3.alloc (.cells C95.toArray 186)) w3.heap.size 186 C95 := Blk.new w3 186 C95
        have hs4 : w.heap.size ≤ w3.heap.size := (((hk0.trans hk10).trans hk7).trans hk2).size
        generalize w3.alloc (.cells C95.toArray 186) = w4 at *
        generalize w3.heap.size = gb4 at *
        refine Late.take 5 (some 14) (.agg (G gb4)) rfl rfl (by kernel_rfl) (by kernel_rfl) (by kernel_rfl) (by kernel_rfl) (fun _ _ _ h => h) (by kernel_rfl) (fun W hSW => x_build rfl #[(0, .slice (some ⟨gb4, 0, none⟩) 0 0)] rfl (rb2 gb4 W)) trivial ?_
        try simp only [Act.put, List.setIfInBounds_toArray, List.set_cons_zero, List.set_cons_succ]
        refine Late.take 11 (some 20) (.agg (H gb2 gb4 gb7 gb10 cp)) rfl rfl (by kernel_rfl) (by kernel_rfl) (by kernel_rfl) (by kernel_rfl) (fun _ _ _ h => h) (by kernel_rfl) (fun W hSW => x_build rfl #[(0, .pointer (some ⟨gb2, 0, none⟩)), (5, .agg (G gb4)), (6, .slice (some ⟨gb7, 0, none⟩) 2 2), (9, .string ⟨#[]⟩), (10, .slice (some ⟨gb10, 0, none⟩) 0 cp)] rfl (rb3 gb2 gb4 gb7 gb10 cp W)) trivial ?_
        try simp only [Act.put, List.setIfInBounds_toArray, List.set_cons_zero, List.set_cons_succ]
        refine Late.ready (rs := [12]) (by kernel_rfl) (by simp) ?_
        refine LateAll.cons rfl (fun K hK => ?_) (LateAll.nil)
        go_simp
        refine hK.out _ _ trivial (fun _ => ?_)
        clear hK K
        try simp only [Act.put, List.setIfInBounds_toArray, List.set_cons_zero, List.set_cons_succ]
        have hk12 : Kept w4 (w4.alloc (.cells (H gb2 gb4 gb7 gb10 cp) 123)) := (Kept.refl _).alloc _
        have hb12 : Blk (w4.alloc (.cells (H gb2 gb4 gb7 gb10 cp) 123)) w4.heap.size 123 (H gb2 gb4 gb7 gb10 cp).toList := by simpa using Blk.new w4 123 (H gb2 gb4 gb7 gb10 cp).toList
        have hs12 : w.heap.size ≤ w4.heap.size := ((((hk0.trans hk10).trans hk7).trans hk2).trans hk4).size
        generalize w4.alloc (.cells (H gb2 gb4 gb7 gb10 cp) 123) = w5 at *
        generalize w4.heap.size = gb12 at *
        refine Late.ready (rs := [13]) (by kernel_rfl) (by simp) ?_
        refine LateAll.last rfl (fun K hK => ?_)
        go_simp
        refine hK.out _ _ ?_
        clear hK K
        refine Late.done (by kernel_rfl) ?_ _
        try simp only [Act.put, List.setIfInBounds_toArray, List.set_cons_zero, List.set_cons_succ]
        go_wp2
        go_ret
        exact made_of (hk0.trans ((((hk10.trans hk7).trans hk2).trans hk4).trans hk12)) (hb2.kept (hk4.trans hk12)) HA94.out (hb7.kept ((hk2.trans hk4).trans hk12)) HL104.out HZ104.out (hb12.kept (Kept.refl _)) (HH.out gb2 gb4 gb7 gb10 cp) hs2 hs7 hs12
      · skip
        go_simp
        refine hK.out _ _ trivial (fun _ => ?_)
        clear hK K
        try simp only [Act.put, List.setIfInBounds_toArray, List.set_cons_zero, List.set_cons_succ]
        have hk4 : Kept w2 (w2.alloc (.cells C95.toArray 186)) := (Kept.refl _).alloc _
        have hb4 : Blk (w2.alloc (.cells C95.toArray 186)) w2.heap.size 186 C95 := Blk.new w2 186 C95
        have hs4 : w.heap.size ≤ w2.heap.size := ((hk0.trans hk10).trans hk7).size
        generalize w2.alloc (.cells C95.toArray 186) = w3 at *
        generalize w2.heap.size = gb4 at *
        refine Late.take 5 (some 14) (.agg (G gb4)) rfl rfl (by kernel_rfl) (by kernel_rfl) (by kernel_rfl) (by kernel_rfl) (fun _ _ _ h => h) (by kernel_rfl) (fun W hSW => x_build rfl #[(0, .slice (some ⟨gb4, 0, none⟩) 0 0)] rfl (rb2 gb4 W)) trivial ?_
        try simp only [Act.put, List.setIfInBounds_toArray, List.set_cons_zero, List.set_cons_succ]
        refine Late.ready (rs := [2]) (by kernel_rfl) (by simp) ?_
        refine LateAll.cons rfl (fun K hK => ?_) (LateAll.nil)
        go_simp
        refine hK.out _ _ trivial (fun _ => ?_)
        clear hK K
        try simp only [Act.put, List.setIfInBounds_toArray, List.set_cons_zero, List.set_cons_succ]
        have hk2 : Kept w3 (w3.alloc (.cells A94 94)) := (Kept.refl _).alloc _
        have hb2 : Blk (w3.alloc (.cells A94 94)) w3.heap.size 94 A94.toList := by simpa using Blk.new w3 94 A94.toList
        have hs2 : w.heap.size ≤ w3.heap.size := (((hk0.trans hk10).trans hk7).trans hk4).size
        generalize w3.alloc (.cells A94 94) = w4 at *
        generalize w3.heap.size = gb2 at *
        refine Late.take 11 (some 20) (.agg (H gb2 gb4 gb7 gb10 cp)) rfl rfl (by kernel_rfl) (by kernel_rfl) (by kernel_rfl) (by kernel_rfl) (fun _ _ _ h => h) (by kernel_rfl) (fun W hSW => x_build rfl #[(0, .pointer (some ⟨gb2, 0, none⟩)), (5, .agg (G gb4)), (6, .slice (some ⟨gb7, 0, none⟩) 2 2), (9, .string ⟨#[]⟩), (10, .slice (some ⟨gb10, 0, none⟩) 0 cp)] rfl (rb3 gb2 gb4 gb7 gb10 cp W)) trivial ?_
        try simp only [Act.put, List.setIfInBounds_toArray, List.set_cons_zero, List.set_cons_succ]
        refine Late.ready (rs := [12]) (by kernel_rfl) (by simp) ?_
        refine LateAll.cons rfl (fun K hK => ?_) (LateAll.nil)
        go_simp
        refine hK.out _ _ trivial (fun _ => ?_)
        clear hK K
        try simp only [Act.put, List.setIfInBounds_toArray, List.set_cons_zero, List.set_cons_succ]
        have hk12 : Kept w4 (w4.alloc (.cells (H gb2 gb4 gb7 gb10 cp) 123)) := (Kept.refl _).alloc _
        have hb12 : Blk (w4.alloc (.cells (H gb2 gb4 gb7 gb10 cp) 123)) w4.heap.size 123 (H gb2 gb4 gb7 gb10 cp).toList := by simpa using Blk.new w4 123 (H gb2 gb4 gb7 gb10 cp).toList
        have hs12 : w.heap.size ≤ w4.heap.size := ((((hk0.trans hk10).trans hk7).trans hk4).trans hk2).size
        generalize w4.alloc (.cells (H gb2 gb4 gb7 gb10 cp) 123) = w5 at *
        generalize w4.heap.size = gb12 at *
        refine Late.ready (rs := [13]) (by kernel_rfl) (by simp) ?_
        refine LateAll.last rfl (fun K hK => ?_)
        go_simp
        refine hK.out _ _ ?_
        clear hK K
        refine Late.done (by kernel_rfl) ?_ _
        try simp only [Act.put, List.setIfInBounds_toArray, List.set_cons_zero, List.set_cons_succ]
        go_wp2
        go_ret
        exact made_of (hk0.trans ((((hk10.trans hk7).trans hk4).trans hk2).trans hk12)) (hb2.kept hk12) HA94.out (hb7.kept ((hk4.trans hk2).trans hk12)) HL104.out HZ104.out (hb12.kept (Kept.refl _)) (HH.out gb2 gb4 gb7 gb10 cp) hs2 hs7 hs12
end Go.Proofs.YtgjhmbbbkkidlaaGreatDoor.hash

