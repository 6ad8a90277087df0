/-
  sortedCrossChunkExportItems over this seat's program: the refs of the set, each once, each with its file's stable index, sorted by the program's order.
  Conditions: every ref's file lies in the table.
-/
import Derived.Test.YtbnkhpbgibgahaaRf
import Derived.Test.YtbnkhpbgibgahaaWz
import Derived.Test.YtbnkhpbgibgahaaSz
import Derived.Test.YtbnkhpbgibgahaaMk1
import Derived.Test.YtbnkhpbgibgahaaTake
import Derived.Deep.CutBlock
import Derived.Deep.CutRange
import Derived.OwnWalk
namespace Go.Proofs.Ytbnkhpbgibgahaa.so
open Go.ChangeShapes Go.WideShapes Go.ChangeAt Go.RowKit
open kit ms sq fl rf Go.Sort
open Go.Maps (Keyed)

/-- the refs' entries: their source lies in the table, whose number there they bear -/
def Good (S : List Int) (F : List En) : Prop := ∀ e ∈ F, okE e ∧ e.src.toNat < S.length ∧ e.s = S.getD e.src.toNat 0
/-- what has been visited, what is left -/
structure Vis (S : List Int) (F : List En) (left : Lit → Bool) (V : List En) : Prop where
  nd : V.Nodup
  sub : ∀ e ∈ V, e ∈ F
  all : ∀ e ∈ F, left (kl e) = true ∨ e ∈ V
  gone : ∀ e ∈ V, left (kl e) = false
  has : ∀ z, left z = true → Maps.has (D F) z = true
section
variable {S : List Int} {F V : List En} {left : Lit → Bool}
theorem Good.ok (h : Good S F) : ∀ e ∈ F, okE e := fun e he => (h e he).1
theorem Good.same (h : Good S F) {a c : En} (ha : a ∈ F) (hc : c ∈ F) (e : a.src = c.src ∧ a.inn = c.inn) : a = c := by
  obtain ⟨_, _, h1⟩ := h a ha
  obtain ⟨_, _, h2⟩ := h c hc
  obtain ⟨a1, a2, a3⟩ := a
  obtain ⟨c1, c2, c3⟩ := c
  obtain ⟨rfl, rfl⟩ := e
  dsimp only at h1 h2
  rw [h1, h2]
theorem Vis.start (h : Good S F) : Vis S F (Maps.has (D F)) [] :=
  ⟨List.nodup_nil, fun e he => (by cases he), fun e he => .inl ((has_iff h.ok (h.ok e he)).2 ⟨e, he, rfl, rfl⟩), fun e he => (by cases he), fun z hz => hz⟩
set_option maxRecDepth 100000 in
theorem Vis.next (h : Vis S F left V) (hg : Good S F) {a b : Int} {l : Lit} (hk : keyOf Try.prog 38 (.agg #[.int .u32 a, .int .u32 b]) = some l) (hl : left l = true) :
    ∃ e ∈ F, e.src = a ∧ e.inn = b ∧ kl e = l ∧ Vis S F (fun z => left z && !z.sameKey l) (V ++ [e]) := by
  obtain ⟨x, hx, hxe⟩ := key_inv hk
  unfold key at hxe
  simp only [Value.agg.injEq, Array.mk.injEq, List.cons.injEq, Value.int.injEq, true_and, and_true] at hxe
  obtain ⟨rfl, rfl⟩ := hxe
  have hlx : kl x = l := Option.some.inj ((kl_eq hx).symm.trans hk)
  subst hlx
  obtain ⟨e, he, e1, e2⟩ := (has_iff hg.ok hx).1 (h.has _ hl)
  have ek : kl e = kl x := by unfold kl key; rw [e1, e2]
  rw [← ek] at hl ⊢
  have hne : e ∉ V := fun hv => by rw [h.gone e hv] at hl; cases hl
  have self : (kl e).sameKey (kl e) = true := WideAt.sameKey_self (kl_isKey (hg.ok e he))
  refine ⟨e, he, e1, e2, rfl, ⟨List.nodup_append.2 ⟨h.nd, by simp, fun u hu v hv huv => ?_⟩, fun u hu => ?_, fun u hu => ?_, fun u hu => ?_, fun z hz => ?_⟩⟩
  · rw [List.mem_singleton.1 hv] at huv
    exact hne (huv ▸ hu)
  · rcases List.mem_append.1 hu with hu | hu
    · exact h.sub u hu
    · rw [List.mem_singleton.1 hu]; exact he
  · rcases h.all u hu with hl2 | hv
    · by_cases hs : (kl u).sameKey (kl e) = true
      · have := hg.same hu he ((kl_same (hg.ok u hu) (hg.ok e he)).1 hs)
        exact .inr (by rw [this]; simp)
      · left
        simp [hl2, hs]
    · exact .inr (List.mem_append_left _ hv)
  · rcases List.mem_append.1 hu with hu | hu
    · simp [h.gone u hu]
    · rw [List.mem_singleton.1 hu]
      simp [self]
  · simp only [Bool.and_eq_true] at hz
    exact h.has z hz.1
theorem Vis.done (h : Vis S F left V) (h0 : ∀ z, left z = false) : V.Nodup ∧ ∀ e, e ∈ V ↔ e ∈ F :=
  ⟨h.nd, fun e => ⟨h.sub e, fun he => by
    rcases h.all e he with hl | hv
    · rw [h0] at hl; cases hl
    · exact hv⟩⟩
end
/-- the loop over the map -/
def CL (w : World) (S : List Int) (F : List En) (mb N q rg : Nat) (t5 : Value) (W : World) : Prop :=
  ∃ (V : List En) (left : Lit → Bool) (cnt : Nat), t5 = .slice (some ⟨q, 0, none⟩) V.length N ∧ V.length + cnt ≤ N ∧ W.ranges Try.prog 38 El mb rg F.length (D F) left cnt ∧
    W.ownsRow q 40 3 (.slice (some ⟨q, 0, none⟩) V.length N) V.length (flat V) ∧ Kept w W ∧ Vis S F left V
/-- what comes back -/
def Out (w : World) (F : List En) (e : Ending) (w' : World) : Prop :=
  ∃ (q c : Nat) (sp : List Value) (R : Array En), e = .returned (.slice (some ⟨q, 0, none⟩) R.size c) ∧ w.heap.size ≤ q ∧ Blk w' q 40 (Cells R sp) ∧ Kept w w' ∧ R.toList.Nodup ∧ (∀ x, x ∈ R.toList ↔ x ∈ F) ∧ SortedIn klt 0 R.size R
/-- the sort's end -/
theorem out_of {w W W2 : World} {S : List Int} {F V : List En} {left : Lit → Bool} {q c : Nat} {sp : List Value} {R : Array En} (hq : q = w.heap.size) (hk : Kept w W) (hv : Vis S F left V) (h0 : ∀ z, left z = false)
    (hp : PermIn 0 V.length V.toArray R) (hs : SortedIn klt 0 V.length R) (hr : Rw q V.length sp W R W2) : Out w F (.returned (.slice (some ⟨q, 0, none⟩) V.length c)) W2 := by
  have hp2 : PermIn 0 V.toArray.size V.toArray R := by simpa using hp
  have h1 := permIn_perm hp2
  obtain ⟨h2, h3⟩ := hv.done h0
  have hsz : R.size = V.length := hr.sz
  refine ⟨q, c, sp, R, by rw [hsz], by omega, hr.blk, ⟨hr.turn.os.trans hk.os, hr.turn.tape.trans hk.tape, hr.turn.output.trans hk.output, Nat.le_trans hk.size hr.turn.size, fun k hk2 => ?_⟩, h1.nodup_iff.2 (by simpa using h2), fun x => by rw [h1.mem_iff]; simpa using h3 x, by rw [hsz]; exact hs⟩
  exact (hr.turn.block k (Nat.lt_of_lt_of_le hk2 hk.size) (by omega)).trans (hk.block k hk2)
theorem own_blk {w : World} {base q n c : Nat} {V : List En} (h : w.ownsRow base 40 3 (.slice (some ⟨q, 0, none⟩) n c) n (flat V)) : ∃ sp, Blk w q 40 (Cells V.toArray sp) := by
  rcases h.2 with ⟨e1, _⟩ | ⟨g, cap, cur, e1, _, hh, _, _, _, ht⟩
  · injection e1 with e1; cases e1
  · injection e1 with e1
    have e3 : q = g := by injection e1 with e1; injection e1
    subst e3
    refine ⟨cur.toList.drop (n * 3), ?_⟩
    rw [Blk, show Cells V.toArray (cur.toList.drop (n * 3)) = flat V ++ cur.toList.drop (n * 3) from rfl, ← ht, List.take_append_drop]
    exact hh
theorem keptGrown {w a b : World} {q : Nat} (h : Kept w a) (g : a.grownBy b (some q)) (hq : w.heap.size ≤ q) : Kept w b :=
  ⟨g.os.trans h.os, g.tape.trans h.tape, g.output.trans h.output, Nat.le_trans h.size g.size, fun k hk => (g.block k (Nat.lt_of_lt_of_le hk h.size) (fun e => by injection e with e; omega)).trans (h.block k hk)⟩
theorem own_grown {w a : World} {base q n c r : Nat} {xs : List Value} (h : w.ownsRow base 40 3 (.slice (some ⟨q, 0, none⟩) n c) n xs) (g : w.grownBy a (some r)) (hr : q ≠ r) : a.ownsRow base 40 3 (.slice (some ⟨q, 0, none⟩) n c) n xs := by
  refine ⟨h.1, ?_⟩
  rcases h.2 with h2 | ⟨k, cap, cur, e1, e2, hh, rest⟩
  · exact .inl h2
  · refine .inr ⟨k, cap, cur, e1, e2, ?_, rest⟩
    have e3 : q = k := by injection e1 with e1; injection e1 with e1; injection e1
    subst e3
    have hlt : q < w.heap.size := by
      apply Classical.byContradiction
      intro hn
      rw [Array.getElem?_eq_none (by omega)] at hh
      cases hh
    exact (g.block q hlt (fun e => hr (by injection e))).trans hh
theorem news3 (w : World) (a b c : Value) : ∀ j u, [a, b, c][j]? = some u → (w.alloc (.cells #[a, b, c] 40)).cell? ((⟨w.heap.size, 0, none⟩ : Addr).add j) = some u := by
  intro j u h
  have hb := (Blk.new w 40 [a, b, c]).cell j
  rw [h] at hb
  have e : (⟨w.heap.size, 0, none⟩ : Addr).add j = ⟨w.heap.size, j, none⟩ := by
    unfold Addr.add
    by_cases hj : j = 0 <;> simp [hj]
  rw [e]
  simpa using hb
theorem one3 (a b c : Int) : ∀ u ∈ [Value.int .u32 a, .int .u32 b, .int .u32 c], u.oneCell' = true := by simp [Value.oneCell']
theorem info40 : ∃ i, Try.prog.info? 40 = some i ∧ i.size = 3 := by
  have h : (Try.prog.info? 40).map (·.size) = some 3 := by kernel_rfl
  obtain ⟨i, h1, h2⟩ := Option.map_eq_some_iff.1 h
  exact ⟨i, h1, h2⟩
/-- an append that fits, as a step of a region that draws -/
theorem step_fits {ops : Array Oper} {o : Oper} {a : Act} {K : Act → World → Prop} {Q : Exit → Act → World → Prop} {E : Prop} (w : World) (d : Nat) (hd : o.dst = some d) (hgd : o.guard = none) (sl x : Operand)
    (ho : o.op = .call { callee := .builtin .append, args := #[sl, x], argTypes := #[35, 35] }) (base q k cap : Nat) (xs : List Value) (hs : a.eval sl = .slice (some ⟨q, 0, none⟩) k cap)
    (hown : w.ownsRow base 40 3 (.slice (some ⟨q, 0, none⟩) k cap) k xs) (ad : Addr) (news : List Value) (hx : a.eval x = .slice (some ad) 1 1) (hn : news.length = 1 * 3) (hc : ∀ j u, news[j]? = some u → w.cell? (ad.add j) = some u) (h1c : ∀ u ∈ news, u.oneCell' = true) (b1 : k + 1 ≤ cap)
    (h : ∀ w', w'.ownsRow base 40 3 (.slice (some ⟨q, 0, none⟩) (k + 1) cap) (k + 1) (xs ++ news) → w.grownBy w' (some q) → K (a.put (some d) (.slice (some ⟨q, 0, none⟩) (k + 1) cap)) w') :
    if Region.wanted o (yielded ops a.tmps) = true then Oper.wp Try.prog o a w K Q else E := by
  rw [← hd] at h
  have hw : Region.wanted o (yielded ops a.tmps) = true := by simp [Region.wanted, hgd]
  rw [if_pos hw]
  obtain ⟨i, hi, hz⟩ := info40
  obtain ⟨w', hrun, r1, r2⟩ := run_append_fits (P := Try.prog) w base 35 o.type 40 i 3 Try.underlying35 hi hz q k cap xs hown ad 1 1 news hn hc h1c b1
  unfold Oper.wp
  simp [execOp, ho, resolve, invoke, builtin, hs, hx, hrun, Result.andThen]
  exact h w' r1 r2
def mkK (x : Int × Int) : Value := .agg #[.int .u32 x.1, .int .u32 x.2]
set_option maxRecDepth 100000 in
theorem invK (v : Value) (l : Lit) (h : keyOf Try.prog 38 v = some l) : ∃ x, v = mkK x := by
  obtain ⟨e, _, rfl⟩ := key_inv h
  exact ⟨(e.src, e.inn), rfl⟩
set_option maxRecDepth 100000 in
theorem invV (v : Value) (y : DataW Unit × List MemPlace) (h : El v = some y) : ∃ c, v = Value.bool c := by
  unfold El plainElem at h
  rw [Try.underlying4] at h
  cases v <;> simp at h
  exact ⟨_, rfl⟩

set_option maxRecDepth 100000 in
set_option maxHeartbeats 8000000 in
theorem items (w : World) (cb mb : Nat) (A : Option Addr) (nS cS : Nat) (S : List Int) (F : List En) (hc : w.cell? ⟨cb, 16, none⟩ = some (.slice A nS cS)) (hS : Row w A nS cS (S.map (Value.int .u32))) (hM : Rs w mb F) (hF : Good S F) (hl : F.length ≤ 65536) (hn : nS ≤ 1048576) :
    Calls Try.prog 16 #[.pointer (some ⟨cb, 0, none⟩), .map (some mb)] w (Out w F) := by
  obtain ⟨N, hN⟩ : ∃ N, N = Maps.size (D F) := ⟨_, rfl⟩
  have hNF : N ≤ F.length := by rw [hN]; exact hM.size_le
  obtain ⟨cur, hcur, hmk⟩ := make0 (T := 35) (E := 40) (z := .agg #[.int .u32 0, .int .u32 0, .int .u32 0]) (size := 3) (bytes := 12) Try.underlying35 (by kernel_rfl) N (N : Int) rfl (by omega) (by unfold maxLen; omega)
  have HH := Lib.hid hN
  have HM := Lib.hid hM
  have HS := Lib.hid hS
  have HF := Lib.hid hF
  have HC := Lib.hid hc
  have HCUR := Lib.hid hcur
  clear hM hS hF hc hcur hN
  go_enter Try.func16, Try.ntmps16
  go_upto_region 2 with (at_len; refine wpList_len_own _ rfl _ 32 rfl 38 4 Try.underlying32 El mb F.length (D F) rfl HM.out.own ?_; rw [← HH.out])
  have HW := Lib.hid ((Kept.refl w).alloc (.cells cur 40))
  have HO : Hid ((w.alloc (.cells cur 40)).ownsRow w.heap.size 40 3 (.slice (some ⟨w.heap.size, 0, none⟩) 0 N) 0 (flat [])) :=
    Lib.hid ⟨rfl, Or.inr ⟨w.heap.size, N, cur, rfl, Nat.le_refl _, heap_alloc_new w _, by omega, by unfold maxLen; omega, HCUR.out, by simp [flat]⟩⟩
  have HM2 := Lib.hid (HM.out.kept HW.out)
  generalize w.alloc (.cells cur 40) = wa at *
  obtain ⟨q, hq⟩ : ∃ q, q = w.heap.size := ⟨_, rfl⟩
  rw [← hq] at HO ⊢
  have HQ := Lib.hid hq
  clear hmk HCUR hq
  go_wp2_with (at_range; refine wpList_range_own _ rfl _ 32 rfl 38 4 K38 Try.underlying32 El mb F.length (D F) rfl HM2.out.own ?_; intro w1 hrg hgr hsz)
  have H0 : Hid (CL w S F mb N q wa.heap.size (.slice (some ⟨q, 0, none⟩) 0 N) w1) := Lib.hid (by
    exact ⟨[], _, _, rfl, by simp [HH.out], hrg, own_grown HO.out (hgr.but (some wa.heap.size)) (by have := HO.out.lt q (by simp [Value.ownBlock]); omega), keptGrown HW.out (hgr.but (some q)) (by have := HQ.out; omega), Vis.start HF.out⟩)
  obtain ⟨rg, hrg⟩ : ∃ rg, rg = wa.heap.size := ⟨_, rfl⟩
  have HRQ : Hid (q < rg ∧ w.heap.size ≤ rg) := Lib.hid (by have := HO.out.lt q (by simp [Value.ownBlock]); have := HQ.out; omega)
  rw [← hrg] at H0 ⊢
  clear hrg hgr hsz HO
  obtain ⟨i40, hi40, hs40⟩ := info40
  go_frame
  go_loopw [5, 6] (fun t _ W => CL w S F mb N q rg t W) (fun _ _ W => W.rangeLeft mb rg)
  case atStart => exact H0.out
  case round =>
    obtain ⟨V, left, cnt, rfl, hcn, hrg, ho, hk, hv⟩ := hrel
    have HRG := Lib.hid hrg
    have HO := Lib.hid ho
    have HK := Lib.hid hk
    have HV := Lib.hid hv
    clear hrg ho hk hv H0
    go_upto_region 5 with (at_next; refine wpList_next_ranges _ rfl _ rfl 38 K38 El mkK Value.bool invK invV mb rg F.length (D F) left cnt rfl HRG.out ?_ ?_; intro h0 hlf; have HLF := Lib.hid hlf; clear hlf h0; rotate_left; intro x c l y w2 cnt2 hkx hlx hRx hax hrg2 hlt hgr2 hsz2 hen; unfold mkK at hen hkx; unfold mkK; obtain ⟨x1, x2⟩ := x; dsimp only at hen hkx; have HKX := Lib.hid hkx; have HLX := Lib.hid hlx; have HR2 := Lib.hid hrg2; have HLT := Lib.hid hlt; have HG2 := Lib.hid hgr2; have HZ2 := Lib.hid hsz2; clear hkx hlx hRx hax hrg2 hlt hgr2 hsz2)
    · obtain ⟨e, he, e1, e2, ek, hv2⟩ := HV.out.next HF.out HKX.out HLX.out
      obtain ⟨⟨⟨o1, o2⟩, o3, o4⟩, o5, o6⟩ := HF.out e he
      obtain ⟨s0, a0, b0⟩ := e
      dsimp only at e1 e2 o1 o2 o3 o4 o5 o6
      subst e1 e2
      have hSn : S.length = nS := by have := HS.out.1; simpa using this
      obtain ⟨bS, oS, rfl, hbS, hcS⟩ := HS.out.2.2.2.2 (by omega)
      have K2 := Lib.hid (keptGrown HK.out HG2.out HRQ.out.2)
      have c1 := hcS a0.toNat (by simpa using o5)
      have c1' : w.cell? ⟨bS, oS + a0.toNat, none⟩ = some (.int .u32 s0) := by
        rw [c1, o6]
        simp [o5]
      obtain ⟨a, rfl⟩ := Int.eq_ofNat_of_zero_le o1
      rw [Int.toNat_natCast] at c1' o5
      have hv3 := Lib.hid hv2
      clear hv2 c1 hcS o6 HKX HLX
      have K3 := Lib.hid (K2.out.alloc (.cells #[.int .u32 (a : Int), .int .u32 b0] 38))
      have B3 := Lib.hid (Blk.new w2 38 [.int .u32 (a : Int), .int .u32 b0])
      have HO2 := Lib.hid ((own_grown HO.out HG2.out (by have := HRQ.out; omega)).alloc (.cells #[.int .u32 (a : Int), .int .u32 b0] 38))
      have HR3 := Lib.hid (HR2.out.alloc (.cells #[.int .u32 (a : Int), .int .u32 b0] 38))
      obtain ⟨w3, hw3⟩ : ∃ w3, w3 = w2.alloc (.cells #[.int .u32 (a : Int), .int .u32 b0] 38) := ⟨_, rfl⟩
      obtain ⟨gq, hgq⟩ : ∃ gq, gq = w2.heap.size := ⟨_, rfl⟩
      rw [← hw3] at K3 HO2 HR3 ⊢
      have B3' : Hid (Blk w3 gq 38 [.int .u32 (a : Int), .int .u32 b0]) := Lib.hid (by rw [hw3, hgq]; exact B3.out)
      have HGQ : Hid (rg < gq) := Lib.hid (by have := HRG.out.lt; have := HZ2.out; omega)
      rw [← hgq]
      clear B3 hw3 hgq
      have x1 := K3.out.cell HC.out
      have x2 := K3.out.cell c1'
      have x3 := B3'.out.cell 0
      have x4 := B3'.out.cell 1
      simp only [List.getElem?_cons_zero, List.getElem?_cons_succ] at x3 x4
      have i1 : (a : Int) < (nS : Int) := by omega
      have i2 : (0 : Int) ≤ (a : Int) := by omega
      have HCC := Lib.hid c1'
      have HSN := Lib.hid hSn
      clear hSn c1' o1
      refine wp_region_held_drew (S := fun W => W.cell? ⟨cb, 16, none⟩ = some (.slice (some ⟨bS, oS, none⟩) nS cS) ∧ W.cell? ⟨bS, oS + a, none⟩ = some (.int .u32 s0) ∧ W.cell? ⟨gq, 0, none⟩ = some (.int .u32 (a : Int)) ∧ W.cell? ⟨gq, 1, none⟩ = some (.int .u32 b0)) (by kernel_rfl) ⟨x1, x2, x3, x4⟩ (fun hHeld => ?_)
      refine takeY 0 (some 16) (.slice (some ⟨q, 0, none⟩) V.length N) rfl rfl (by kernel_rfl) (by kernel_rfl) (by kernel_rfl) (fun _ _ _ h => h) (by kernel_rfl) ?_ (by assumption) ?_
      · intro W hSW
        try dsimp only at hSW
        obtain ⟨g1, g2, g3, g4⟩ := hSW
        go_simp
      simp only [Act.put, List.setIfInBounds_toArray, List.set_cons_zero, List.set_cons_succ]
      refine takeY 1 (some 17) (.pointer (some ⟨cb, 0, none⟩)) rfl rfl (by kernel_rfl) (by kernel_rfl) (by kernel_rfl) (fun _ _ _ h => h) (by kernel_rfl) ?_ (by assumption) ?_
      · intro W hSW
        try dsimp only at hSW
        obtain ⟨g1, g2, g3, g4⟩ := hSW
        go_simp
      simp only [Act.put, List.setIfInBounds_toArray, List.set_cons_zero, List.set_cons_succ]
      refine takeY 2 (some 18) (.pointer (some ⟨cb, 0, none⟩)) rfl rfl (by kernel_rfl) (by kernel_rfl) (by kernel_rfl) (fun _ _ _ h => h) (by kernel_rfl) ?_ (by assumption) ?_
      · intro W hSW
        try dsimp only at hSW
        obtain ⟨g1, g2, g3, g4⟩ := hSW
        go_simp
      simp only [Act.put, List.setIfInBounds_toArray, List.set_cons_zero, List.set_cons_succ]
      refine takeY 3 (some 19) (.pointer (some ⟨cb, 10, none⟩)) rfl rfl (by kernel_rfl) (by kernel_rfl) (by kernel_rfl) (fun _ _ _ h => h) (by kernel_rfl) ?_ (by assumption) ?_
      · intro W hSW
        try dsimp only at hSW
        obtain ⟨g1, g2, g3, g4⟩ := hSW
        go_simp
      simp only [Act.put, List.setIfInBounds_toArray, List.set_cons_zero, List.set_cons_succ]
      refine takeY 4 (some 20) (.pointer (some ⟨cb, 16, none⟩)) rfl rfl (by kernel_rfl) (by kernel_rfl) (by kernel_rfl) (fun _ _ _ h => h) (by kernel_rfl) ?_ (by assumption) ?_
      · intro W hSW
        try dsimp only at hSW
        obtain ⟨g1, g2, g3, g4⟩ := hSW
        go_simp
      simp only [Act.put, List.setIfInBounds_toArray, List.set_cons_zero, List.set_cons_succ]
      refine takeY 5 (some 21) (.slice (some ⟨bS, oS, none⟩) nS cS) rfl rfl (by kernel_rfl) (by kernel_rfl) (by kernel_rfl) (fun _ _ _ h => h) (by kernel_rfl) ?_ (by assumption) ?_
      · intro W hSW
        try dsimp only at hSW
        obtain ⟨g1, g2, g3, g4⟩ := hSW
        go_simp
      simp only [Act.put, List.setIfInBounds_toArray, List.set_cons_zero, List.set_cons_succ]
      refine takeY 6 (some 22) (.pointer (some ⟨gq, 0, none⟩)) rfl rfl (by kernel_rfl) (by kernel_rfl) (by kernel_rfl) (fun _ _ _ h => h) (by kernel_rfl) ?_ (by assumption) ?_
      · intro W hSW
        try dsimp only at hSW
        obtain ⟨g1, g2, g3, g4⟩ := hSW
        go_simp
      simp only [Act.put, List.setIfInBounds_toArray, List.set_cons_zero, List.set_cons_succ]
      refine takeY 7 (some 23) (.int .u32 (a : Int)) rfl rfl (by kernel_rfl) (by kernel_rfl) (by kernel_rfl) (fun _ _ _ h => h) (by kernel_rfl) ?_ (by assumption) ?_
      · intro W hSW
        try dsimp only at hSW
        obtain ⟨g1, g2, g3, g4⟩ := hSW
        go_simp
      simp only [Act.put, List.setIfInBounds_toArray, List.set_cons_zero, List.set_cons_succ]
      refine takeY 8 (some 24) (.pointer (some ⟨bS, oS + a, none⟩)) rfl rfl (by kernel_rfl) (by kernel_rfl) (by kernel_rfl) (fun _ _ _ h => h) (by kernel_rfl) ?_ (by assumption) ?_
      · intro W hSW
        try dsimp only at hSW
        obtain ⟨g1, g2, g3, g4⟩ := hSW
        go_simp
      simp only [Act.put, List.setIfInBounds_toArray, List.set_cons_zero, List.set_cons_succ]
      refine takeY 9 (some 25) (.int .u32 s0) rfl rfl (by kernel_rfl) (by kernel_rfl) (by kernel_rfl) (fun _ _ _ h => h) (by kernel_rfl) ?_ (by assumption) ?_
      · intro W hSW
        try dsimp only at hSW
        obtain ⟨g1, g2, g3, g4⟩ := hSW
        go_simp
      simp only [Act.put, List.setIfInBounds_toArray, List.set_cons_zero, List.set_cons_succ]
      refine takeY 10 (some 26) (.agg #[.int .u32 (a : Int), .int .u32 b0]) rfl rfl (by kernel_rfl) (by kernel_rfl) (by kernel_rfl) (fun _ _ _ h => h) (by kernel_rfl) ?_ (by assumption) ?_
      · intro W hSW
        try dsimp only at hSW
        obtain ⟨g1, g2, g3, g4⟩ := hSW
        go_simp
      simp only [Act.put, List.setIfInBounds_toArray, List.set_cons_zero, List.set_cons_succ]
      refine takeY 11 (some 27) (.agg #[.int .u32 s0, .int .u32 (a : Int), .int .u32 b0]) rfl rfl (by kernel_rfl) (by kernel_rfl) (by kernel_rfl) (fun _ _ _ h => h) (by kernel_rfl) ?_ (by assumption) ?_
      · intro W hSW
        try dsimp only at hSW
        obtain ⟨g1, g2, g3, g4⟩ := hSW
        kernel_rfl
      simp only [Act.put, List.setIfInBounds_toArray, List.set_cons_zero, List.set_cons_succ]
      refine wpAnyH_ready (rs := [12]) (by kernel_rfl) (by simp) ?_
      refine AllReadyH.cons rfl (fun K hK => ?_) AllReadyH.nil
      go_simp
      have K5 := Lib.hid (((Kept.refl w3).alloc (.cells #[.int .u32 s0, .int .u32 (a : Int), .int .u32 b0] 40)).drew)
      refine hK.out _ _ ⟨K5.out.cell x1, K5.out.cell x2, K5.out.cell x3, K5.out.cell x4⟩ (fun hH2 => ?_)
      clear hK K hHeld
      have N5 := Lib.hid (news3 w3 (.int .u32 s0) (.int .u32 (a : Int)) (.int .u32 b0))
      have HO5 := Lib.hid ((HO2.out.alloc (.cells #[.int .u32 s0, .int .u32 (a : Int), .int .u32 b0] 40)).drew)
      have HR5 := Lib.hid (HR3.out.alloc (.cells #[.int .u32 s0, .int .u32 (a : Int), .int .u32 b0] 40))
      have hfit : V.length + 1 ≤ N := by have := HLT.out; omega
      refine wpAnyH_ready (rs := [13]) (by kernel_rfl) (by simp) ?_
      refine AllReadyH.cons rfl (fun K hK => ?_) AllReadyH.nil
      refine step_fits _ 29 (by rfl) (by rfl) _ _ (by rfl) q q V.length N (flat V) (by rfl) HO5.out ⟨w3.heap.size, 0, none⟩ [.int .u32 s0, .int .u32 (a : Int), .int .u32 b0] (by rfl) (by rfl) N5.out (one3 _ _ _) hfit ?_
      intro w6 ho6 hg6
      have K6 := Lib.hid (keptGrown (K3.out.trans K5.out) hg6 (by have := HQ.out; omega))
      have hl6 : (V ++ [(⟨s0, (a : Int), b0⟩ : En)]).length = V.length + 1 := by simp
      have ho7 : w6.ownsRow q 40 3 (.slice (some ⟨q, 0, none⟩) (V ++ [(⟨s0, (a : Int), b0⟩ : En)]).length N) (V ++ [(⟨s0, (a : Int), b0⟩ : En)]).length (flat (V ++ [(⟨s0, (a : Int), b0⟩ : En)])) := by
        rw [hl6]
        have e9 : flat (V ++ [(⟨s0, (a : Int), b0⟩ : En)]) = flat V ++ [.int .u32 s0, .int .u32 (a : Int), .int .u32 b0] := by simp [flat, ent]
        rw [e9]
        exact ho6
      have hr7 : w6.ranges Try.prog 38 El mb rg F.length (D F) (fun z => left z && !z.sameKey l) cnt2 := by
        have hr5 : (w3.alloc (.cells #[.int .u32 s0, .int .u32 (a : Int), .int .u32 b0] 40)).drew.ranges Try.prog 38 El mb rg F.length (D F) (fun z => left z && !z.sameKey l) cnt2 := HR5.out
        exact hr5.kept hg6 (fun e => by have := HM.out.lt; have := HQ.out; injection e; omega) (fun e => by have := HRQ.out; injection e; omega)
      have HN : Hid (CL w S F mb N q rg (.slice (some ⟨q, 0, none⟩) (V.length + 1) N) w6) := Lib.hid ⟨V ++ [⟨s0, (a : Int), b0⟩], _, cnt2, by rw [hl6], by rw [hl6]; have := HLT.out; omega, hr7, ho7, K6.out, hv3.out⟩
      have HME : Hid (w6.rangeLeft mb rg < wr.rangeLeft mb rg) := Lib.hid (by rw [hr7.left_eq, HRG.out.left_eq]; exact HLT.out)
      have hS6 := And.intro (K6.out.cell HC.out) (K6.out.cell HCC.out)
      have B6 := (B3'.out.kept K5.out).grown hg6 (fun e => by have := HRQ.out; have := HGQ.out; injection e; omega)
      refine hK.out _ _ ⟨hS6.1, hS6.2, B6.cell 0, B6.cell 1⟩ (fun hH3 => ?_)
      clear hK K hH2 ho6 hg6 ho7 hr7 hS6 B6
      simp only [Act.put, List.setIfInBounds_toArray, List.set_cons_zero, List.set_cons_succ]
      refine takeY 14 (some 5) (.slice (some ⟨q, 0, none⟩) (V.length + 1) N) rfl rfl (by kernel_rfl) (by kernel_rfl) (by kernel_rfl) (fun _ _ _ h => h) (by kernel_rfl) ?_ (by assumption) ?_
      · intro W hSW
        go_simp
      simp only [Act.put, List.setIfInBounds_toArray, List.set_cons_zero, List.set_cons_succ]
      refine wpAnyH_done (by kernel_rfl) ?_ _
      go_wp2_with fail
      go_roundw
      case rel => first | exact HN.out | ((repeat apply Exists.intro); exact ⟨HN.out, rfl⟩)
      case measure => exact HME.out
    · obtain ⟨sp, hb⟩ := own_blk HO.out
      have hw := Rw.start hb (n := V.length) (by simp)
      have HSO := Lib.hid (sort q V.length N sp wr wr V.toArray hw (by have := HV.out.nd; omega))
      unfold rowV at HSO
      refine HSO.out.mono ?_
      rintro e w5 ⟨rfl, R, r1, r2, r3⟩
      have HX : Hid (Out w F (.returned (.slice (some ⟨q, 0, none⟩) V.length N)) w5) := Lib.hid (out_of HQ.out HK.out HV.out HLF.out r1 r2 r3)
      clear r1 r2 r3 hb hw
      go_wp2_with fail
      go_ret
      exact HX.out
end Go.Proofs.Ytbnkhpbgibgahaa.so
