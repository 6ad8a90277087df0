/-
  markFileReachableForCodeSplitting over this seat's program: what one call leaves.
  Conditions: the files lie in memory as MemR says.
-/
import Derived.Test.YtgnccfofhcbjjaaRx
namespace Go.Proofs.Ytgnccfofhcbjjaa.lk
open Go.ChangeShapes Go.WideShapes Go.ChangeAt Go.RowKit
open kit dfs dst

theorem sizeR147 : (Try.prog.info? 147).map (·.size) = some 15 := by kernel_rfl
theorem sizeP83 : (Try.prog.info? 83).map (·.size) = some 11 := by kernel_rfl
def zR147 : Array Value := #[.pointer none, .pointer none, .string ⟨#[]⟩, .string ⟨#[]⟩, .string ⟨#[]⟩, .string ⟨#[]⟩, .int .u8 0, .int .i32 0, .int .i32 0, .int .i32 0, .int .u32 0, .int .u32 0, .int .u16 0, .int .u8 0, .int .u8 0]
def zP83 : Array Value := #[.slice none 0 0, .slice none 0 0, .slice none 0 0, .slice none 0 0, .map none, .map none, .map none, .slice none 0 0, .bool false, .bool false, .bool false]
/-- a stretch of a block, read out -/
theorem stretch {w : World} {g T : Nat} {cs : List Value} (h : Blk w g T cs) (ho : One_ cs) {o n : Nat} (hl : o + n ≤ cs.length) : ∃ xs : List Value, xs.length = n ∧ w.rangeAt g o xs ∧ xs.toArray.all (·.oneCell') = true ∧ ∀ j, j < n → xs[j]? = cs[o + j]? :=
  ⟨(cs.drop o).take n, by simp; omega, h.range _ _, all_oneCell_toArray (fun v hv => ho v (List.mem_of_mem_drop (List.mem_of_mem_take hv))), fun j hj => by rw [List.getElem?_take, if_pos hj, List.getElem?_drop]⟩
theorem MemR.far {w : World} {cb LB ob : Nat} {F : Ct} {J EB PB : Nat → Nat} {d : Nat → Nat} {e : Nat → Nat → Bool} (h : MemR w cb LB ob F J EB PB d e) {b t : Nat} {cs : List Value} (hb : Blk w b t cs) (h1 : t ≠ 60) (h2 : t ≠ 5) (W : World) (hT : Turn w W (RB F.length LB EB)) : Blk W b t cs := by
  refine hT.blk hb ?_
  rintro (e1 | ⟨i, hi, e1⟩)
  · obtain ⟨c, q, _⟩ := h.files
    exact hb.apart q h1 e1
  · exact hb.apart (h.one i hi).2 h2 e1.symm
/-- what the walk from file v reads, in every world that the marking leaves -/
theorem MemR.recsAll {w : World} {cb LB ob : Nat} {F : Ct} {J EB PB : Nat → Nat} {d : Nat → Nat} {e : Nat → Nat → Bool} (h : MemR w cb LB ob F J EB PB d e) {v : Nat} (hv : v < F.length) : ∃ rb, ∀ W, Turn w W (RB F.length LB EB) →
    W.cell? ⟨J v, 63, none⟩ = some (.int .u32 (ixv (fl F v).css)) ∧ W.cell? ⟨J v, 35, none⟩ = some (.slice (some ⟨rb, 0, none⟩) (fl F v).recs.length (fl F v).recs.length) ∧ W.cell? ⟨J v, 20, none⟩ = some (.slice (some ⟨PB v, 0, none⟩) (fl F v).parts.length (fl F v).parts.length) ∧
    ∀ q, q < (fl F v).recs.length → ∃ xs : List Value, xs.length = 15 ∧ W.rangeAt rb (q * 15) xs ∧ xs.toArray.all (·.oneCell') = true ∧ xs[10]? = some (.int .u32 (ixv (rcd (fl F v).recs q).tgt)) ∧ xs[14]? = some (.int .u8 ((rcd (fl F v).recs q).kind : Int)) := by
  obtain ⟨⟨_, cs, rb, rcs, h1, h2, h3, h4, _, h5, h6, h7, h8⟩, _⟩ := (h.one v hv).1
  refine ⟨rb, fun W hT => ?_⟩
  have hJ := h.far h1 (by decide) (by decide) W hT
  have hR := h.far h5 (by decide) (by decide) W hT
  refine ⟨by rw [hJ.cell]; exact h4, by rw [hJ.cell]; exact h3, by rw [hJ.cell]; exact h2, fun q hq => ?_⟩
  obtain ⟨xs, x1, x2, x3, x4⟩ := stretch hR h7 (o := q * 15) (n := 15) (by have := slot_lt (size := 15) hq (j := 14) (by omega); omega)
  obtain ⟨g1, _, g3⟩ := h8 q hq
  exact ⟨xs, x1, x2, x3, (x4 10 (by omega)).trans g1, (x4 14 (by omega)).trans g3⟩
theorem MemR.partsAll {w : World} {cb LB ob : Nat} {F : Ct} {J EB PB : Nat → Nat} {d : Nat → Nat} {e : Nat → Nat → Bool} (h : MemR w cb LB ob F J EB PB d e) {v : Nat} (hv : v < F.length) : ∀ p, p < (fl F v).parts.length → ∃ db, ∀ W, Turn w W (RB F.length LB EB) →
    (∃ xs : List Value, xs.length = 11 ∧ W.rangeAt (PB v) (p * 11) xs ∧ xs.toArray.all (·.oneCell') = true ∧ xs[7]? = some (.slice (some ⟨db, 0, none⟩) (prt (fl F v).parts p).deps.length (prt (fl F v).parts p).deps.length)) ∧
    ∀ k, k < (prt (fl F v).parts p).deps.length → W.cell? ⟨db, k * 2, none⟩ = some (.int .u32 ((lk.dep (prt (fl F v).parts p).deps k).1 : Int)) ∧ W.cell? ⟨db, k * 2 + 1, none⟩ = some (.int .u32 ((lk.dep (prt (fl F v).parts p).deps k).2 : Int)) := by
  intro p hp
  obtain ⟨_, _, pcs, h1, h2, h3, h4⟩ := (h.one v hv).1
  obtain ⟨ib, db, _, g2, _, _, _, _, _, _, g9⟩ := h4 p hp
  refine ⟨db, fun W hT => ⟨?_, fun k hk => ?_⟩⟩
  · have hP := h.far h1 (by decide) (by decide) W hT
    obtain ⟨xs, x1, x2, x3, x4⟩ := stretch hP h3 (o := p * 11) (n := 11) (by have := slot_lt (size := 11) hp (j := 10) (by omega); omega)
    exact ⟨xs, x1, x2, x3, (x4 7 (by omega)).trans g2⟩
  · have hD := h.far g9 (by decide) (by decide) W hT
    obtain ⟨y1, y2⟩ := depCells_at _ k hk
    exact ⟨by rw [hD.cell]; exact y1, by rw [hD.cell]; exact y2⟩
def Marked (w : World) (cb LB ob : Nat) (F : Ct) (J EB PB : Nat → Nat) (S : Nat → Bool) (b k v : Nat) (d : Nat → Nat) (e : Nat → Nat → Bool) (x : Ending) (w' : World) : Prop :=
  x = .returned (.tuple #[]) ∧ ∃ d2 e2, Pst (liveF F) (adj F) S b k v d e d2 e2 ∧ MemR w' cb LB ob F J EB PB d2 e2 ∧ Turn w w' (RB F.length LB EB)
def Mark (w : World) (cb LB ob : Nat) (F : Ct) (J EB PB : Nat → Nat) (S : Nat → Bool) (b k v : Nat) (d : Nat → Nat) (e : Nat → Nat → Bool) : Prop :=
  Calls Try.prog 22 #[.pointer (some ⟨cb, 0, none⟩), .int .u32 (v : Int), .int .u64 (b : Int), .int .u32 (k : Int)] w (Marked w cb LB ob F J EB PB S b k v d e)

section
variable (w : World) (cb LB ob : Nat) (F : Ct) (J EB PB : Nat → Nat) (S : Nat → Bool) (b k v : Nat) (d : Nat → Nat) (e : Nat → Nat → Bool)
set_option maxRecDepth 100000 in
set_option maxHeartbeats 4000000 in
theorem reachDead (h : MemR w cb LB ob F J EB PB d e) (hv : v < F.length) (hc : Clo (liveF F) (adj F) S d e b) (hl : (fl F v).live = false) : Mark w cb LB ob F J EB PB S b k v d e := by
  have c1 := h.ctxc.1
  obtain ⟨_, _, _, _, _, c2⟩ := h.file hv
  rw [hl] at c2
  have hn := h.fit.top
  have i0 : (0 : Int) ≤ (v : Int) := by omega
  have i1 : (v : Int) < (F.length : Int) := by omega
  have HM := Lib.hid h
  have HC := Lib.hid (Pst.dead (k := k) (v := v) hc (show liveF F v = false from hl))
  clear h hl hc
  unfold Mark
  go_enter Try.func22, Try.ntmps22
  go_wp2_with fail
  go_end0
  exact ⟨rfl, d, e, HC.out, HM.out, Turn.refl _ _⟩
set_option maxRecDepth 100000 in
set_option maxHeartbeats 4000000 in
theorem reachDone (h : MemR w cb LB ob F J EB PB d e) (hv : v < F.length) (hc : Clo (liveF F) (adj F) S d e b) (hb : b < 256) (hk : k ≤ 256) (hl : (fl F v).live = true) (h1 : d v ≤ k) (h2 : e v b = true) : Mark w cb LB ob F J EB PB S b k v d e := by
  have c1 := h.ctxc.1
  obtain ⟨c3, _, c4, _, _, c2⟩ := h.file hv
  rw [hl] at c2
  have hn := h.fit.top
  have i0 : (0 : Int) ≤ (v : Int) := by omega
  have i1 : (v : Int) < (F.length : Int) := by omega
  have hB := Lib.hid (h.one v hv).2
  have hd : ¬ (k : Int) < (d v : Int) := by omega
  have HM := Lib.hid h
  have HC := Lib.hid (Pst.done (k := k) hc h1 h2)
  have H2 := Lib.hid h2
  clear h hl hc h2
  unfold Mark
  go_enter Try.func22, Try.ntmps22
  go_wp2_with fail
  refine (hasBit w (EB v) b (e v) hb hB.out).mono ?_
  rintro x w2 ⟨rfl, k2⟩
  have HM2 := Lib.hid (HM.out.kept k2)
  have HT2 := Lib.hid (Turn.of_kept k2 (RB F.length LB EB))
  clear k2
  rw [H2.out]
  go_wp2_with fail
  go_end0
  exact ⟨rfl, d, e, HC.out, HM2.out, HT2.out⟩

/-- what lies in memory behind the children ts -/
def Lp (ts : List Nat) (W : World) : Prop := ∃ d2 e2, Lps (liveF F) (adj F) S b k v ts d e d2 e2 ∧ MemR W cb LB ob F J EB PB d2 e2 ∧ Turn w W (RB F.length LB EB)
variable {w cb LB ob F J EB PB S b k v d e} in
theorem Lp.kept {ts : List Nat} {W W2 : World} (h : Lp w cb LB ob F J EB PB S b k v d e ts W) (kk : Kept W W2) : Lp w cb LB ob F J EB PB S b k v d e ts W2 := by
  obtain ⟨d2, e2, h1, h2, h3⟩ := h
  exact ⟨d2, e2, h1, h2.kept kk, h3.kept kk⟩
theorem ixb {c : Int} {n : Nat} (h : c < (n : Int)) (hn : n ≤ 256) : (ixv c == 0) = !decide (0 ≤ c) := by
  unfold ixv
  by_cases h0 : 0 ≤ c
  · rw [if_pos h0]; simp [h0]; omega
  · rw [if_neg h0]; simp [h0]
variable {F v} in
theorem mem_recs {q c : Nat} (hq : q < (fl F v).recs.length) (h0 : 0 ≤ (rcd (fl F v).recs q).tgt) (hc : (rcd (fl F v).recs q).tgt.toNat = c) : c ∈ adj F v := by
  unfold adj
  refine List.mem_append_left _ (List.mem_append_right _ ?_)
  unfold recsAdj
  exact List.mem_map.2 ⟨q, List.mem_filter.2 ⟨List.mem_range.2 hq, by simpa using h0⟩, hc⟩
variable {F v} in
theorem mem_deps {p q : Nat} (hp : p < (fl F v).parts.length) (hq : q < (prt (fl F v).parts p).deps.length) (hn : (lk.dep (prt (fl F v).parts p).deps q).1 ≠ v) : (lk.dep (prt (fl F v).parts p).deps q).1 ∈ adj F v := by
  unfold adj
  refine List.mem_append_right _ ?_
  unfold partsAdj
  refine List.mem_flatMap.2 ⟨p, List.mem_range.2 hp, ?_⟩
  unfold depsAdj
  exact List.mem_map.2 ⟨q, List.mem_filter.2 ⟨List.mem_range.2 hq, by simpa using hn⟩, rfl⟩
def AtR (t88 : Value) (W : World) : Prop := ∃ q : Nat, q ≤ (fl F v).recs.length ∧ t88 = .int .i64 (q : Int) ∧ Lp w cb LB ob F J EB PB S b k v d e (cssAdj (fl F v).css ++ recsAdj (fl F v).recs q) W
def AtP (t115 : Value) (W : World) : Prop := ∃ j : Nat, j ≤ (fl F v).parts.length ∧ t115 = .int .i64 (j : Int) ∧ Lp w cb LB ob F J EB PB S b k v d e (cssAdj (fl F v).css ++ recsAdj (fl F v).recs (fl F v).recs.length ++ partsAdj v (fl F v).parts j) W
def AtD (j : Nat) (t122 : Value) (W : World) : Prop := ∃ q : Nat, q ≤ (prt (fl F v).parts j).deps.length ∧ t122 = .int .i64 (q : Int) ∧ Lp w cb LB ob F J EB PB S b k v d e (cssAdj (fl F v).css ++ recsAdj (fl F v).recs (fl F v).recs.length ++ partsAdj v (fl F v).parts j ++ depsAdj v (prt (fl F v).parts j).deps q) W
theorem _root_.Go.Proofs.Ytgnccfofhcbjjaa.kit.Turn.weaken {w w2 : World} {S T : Nat → Prop} (h : Turn w w2 S) (hs : ∀ x, S x → T x) : Turn w w2 T := ⟨h.os, h.tape, h.output, h.size, fun b hb hn => h.block b hb fun c => hn (hs b c)⟩
/-- the distance is laid -/
def R1 (t9 : Value) (W : World) : Prop := t9 = .bool (decide (k < d v)) ∧ MemR W cb LB ob F J EB PB (upd d v (min (d v) k)) e ∧ Turn w W (RB F.length LB EB)
/-- the bit is not there, or the file is walked on from again -/
def R2 (t53 : Value) (W : World) : Prop := t53 = .bool false ∧ MemR W cb LB ob F J EB PB (upd d v (min (d v) k)) e ∧ Turn w W (RB F.length LB EB)

set_option maxRecDepth 100000 in
set_option maxHeartbeats 16000000 in
theorem reachGo (eb : Bool) (heb : e v b = eb) (h : MemR w cb LB ob F J EB PB d e) (hn : F.length ≤ 256) (hv : v < F.length) (hb : b < 256) (hl : (fl F v).live = true) (hp : Pre (liveF F) (adj F) F.length S b k d e) (hg : eb = false ∨ eb = true ∧ k < d v)
    (ih : ∀ (W : World) (d2 : Nat → Nat) (e2 : Nat → Nat → Bool) (c : Nat), Pre (liveF F) (adj F) F.length (upd S v true) b (k + 1) d2 e2 → c < F.length → MemR W cb LB ob F J EB PB d2 e2 → Mark W cb LB ob F J EB PB (upd S v true) b (k + 1) c d2 e2) : Mark w cb LB ob F J EB PB S b k v d e := by
  have hS : S v = false := hp.fresh (by rcases hg with rfl | ⟨_, hg⟩; exact .inr heb; exact .inl hg)
  have hk := hp.small hv hS
  have hlps0 := Lps.start hp (show liveF F v = true from hl) hS
  have HL := Lib.hid (show liveF F v = true from hl)
  have HIH : Hid (∀ (W : World) (d2 : Nat → Nat) (e2 : Nat → Nat → Bool) (ts : List Nat) (c : Nat), Lps (liveF F) (adj F) S b k v ts d e d2 e2 → MemR W cb LB ob F J EB PB d2 e2 → Turn w W (RB F.length LB EB) → c < F.length → c ∈ adj F v → Calls Try.prog 22 #[.pointer (some ⟨cb, 0, none⟩), .int .u32 (c : Int), .int .u64 (b : Int), .int .u32 ((k : Int) + 1)] W fun x w' => x = .returned (.tuple #[]) ∧ Lp w cb LB ob F J EB PB S b k v d e (ts ++ [c]) w') := Lib.hid (fun W d2 e2 ts c hL hM hT hc hca => by
    have := ih W d2 e2 c (hL.pre hp hv hS) hc hM
    unfold Mark at this
    refine this.mono ?_
    rintro x w' ⟨rfl, d3, e3, h3, hM3, hT3⟩
    exact ⟨rfl, d3, e3, hL.step (show liveF F v = true from hl) hca h3, hM3, hT.trans hT3⟩)
  have HFIN : Hid (∀ W, Lp w cb LB ob F J EB PB S b k v d e (adj F v) W → ∃ d2 e2, Pst (liveF F) (adj F) S b k v d e d2 e2 ∧ MemR W cb LB ob F J EB PB d2 e2 ∧ Turn w W (RB F.length LB EB)) := Lib.hid (fun W hW => by
    obtain ⟨d2, e2, h1, h2, h3⟩ := hW
    exact ⟨d2, e2, h1.fin (fun c hc => hc) hp hS (show liveF F v = true from hl), h2, h3⟩)
  have HL0 := Lib.hid hlps0
  have HHB : Hid (∀ W (d2 : Nat → Nat), MemR W cb LB ob F J EB PB d2 e → Calls Try.prog 12 #[.agg #[.slice (some ⟨EB v, 0, none⟩) 32 32], .int .u64 (b : Int)] W fun x w' => x = .returned (.bool eb) ∧ Kept W w') := Lib.hid (fun W d2 hM => by
    have := hasBit W (EB v) b (e v) hb (hM.one v hv).2
    rw [heb] at this
    exact this)
  have c1 := h.ctxc.1
  obtain ⟨_, _, c4, f4, _, c2⟩ := h.file hv
  rw [hl] at c2
  have htop := h.fit.top
  have i0 : (0 : Int) ≤ (v : Int) := by omega
  have i1 : (v : Int) < (F.length : Int) := by omega
  have HM := Lib.hid h
  have HSET := Lib.hid (h.setDist (k := k) hv)
  have HOK := Lib.hid (h.fit.ok v hv)
  have HLEN := Lib.hid h.fit.lens
  obtain ⟨rb, hrb⟩ := h.recsAll hv
  have HRB := Lib.hid hrb
  have HPB := Lib.hid (h.partsAll hv)
  clear hrb
  clear h hl hp ih hlps0
  have ta : ∀ W : World, (Instr.typeAssert (.iface 132 (.pointer (some ⟨J v, 0, none⟩))) 39 132 true).run Try.prog W = .ok (.tuple #[.pointer (some ⟨J v, 0, none⟩), .bool true]) W := fun W => by kernel_rfl
  unfold Mark
  go_enter Try.func22, Try.ntmps22
  go_upto_if 37 with (fail)
  go_cut [9] (fun t9 W => Hid (R1 w cb LB ob F J EB PB k v d e t9 W))
  case first =>
    by_cases hkd : k < d v
    · have hkd2 : (k : Int) < (d v : Int) := by omega
      have HR : Hid (R1 w cb LB ob F J EB PB k v d e (.bool true) (w.setCell ⟨LB, v * 24 + 20, none⟩ (.int .u32 (k : Int)))) := Lib.hid ⟨by simp [hkd], by rw [Nat.min_eq_right (by omega)]; exact HSET.out, (Turn.refl w _).set (p := ⟨LB, v * 24 + 20, none⟩) (.inl rfl) _⟩
      clear hg
      go_wp2_with fail
      go_meet
      exact HR
    · have hkd2 : ¬ (k : Int) < (d v : Int) := by omega
      have HR : Hid (R1 w cb LB ob F J EB PB k v d e (.bool false) w) := Lib.hid ⟨by simp [hkd], by rw [Nat.min_eq_left (by omega), upd_self]; exact HM.out, Turn.refl _ _⟩
      clear hg
      go_wp2_with fail
      go_meet
      exact HR
  case rest =>
    obtain ⟨ht9, hM1, hT1⟩ := hcut.out
    obtain ⟨w1, rfl⟩ : ∃ w1 : World, w1 = wc := ⟨_, rfl⟩
    have HM1 := Lib.hid hM1
    have HT1 := Lib.hid hT1
    subst ht9
    obtain ⟨a3, _, _, _, _, _⟩ := hM1.file hv
    clear hcut hM1 hT1 c1 c2 c4 f4 HM HSET
    have W3 : IntKind.u32.wrap ((k : Int) + 1) = (k : Int) + 1 := by rw [IntKind.wrap_u32]; omega
    go_upto_region 7 with fail
    have HG9 : Hid (eb = false ∨ eb = true ∧ decide (k < d v) = true) := Lib.hid (by rcases hg with hg | ⟨hg, hkd⟩; exact .inl hg; exact .inr ⟨hg, by simpa using hkd⟩)
    clear hg
    generalize decide (k < d v) = b9 at *
    go_cut [53] (fun t53 W => Hid (R2 w cb LB ob F J EB PB k v d e t53 W))
    case first =>
      go_wp2_with fail
      refine (HHB.out w1 _ HM1.out).mono ?_
      rintro x w2 ⟨rfl, k2⟩
      have HR : Hid (R2 w cb LB ob F J EB PB k v d e (.bool false) w2) := Lib.hid ⟨rfl, HM1.out.kept k2, HT1.out.kept k2⟩
      clear k2
      have hg := HG9.out
      clear HG9
      rcases hg with rfl | ⟨rfl, rfl⟩
      · go_wp2_with fail
        go_meet
        exact HR
      · go_wp2_with fail
        go_meet
        exact HR
    case rest =>
      obtain ⟨ht53, hM2, hT2⟩ := hcut.out
      obtain ⟨w2, rfl⟩ : ∃ w2 : World, w2 = wc := ⟨_, rfl⟩
      have HM2 := Lib.hid hM2
      have HT2 := Lib.hid hT2
      subst ht53
      obtain ⟨a3, _, _, _, _, _⟩ := hM2.file hv
      clear hcut hM2 hT2 HM1 HT1 HHB HG9
      go_wp2_with fail
      refine (setBit w2 (EB v) b (e v) hb (HM2.out.one v hv).2).mono ?_
      rintro x w3 ⟨rfl, b3, t3⟩
      have HLP : Hid (Lp w cb LB ob F J EB PB S b k v d e [] w3) := Lib.hid ⟨_, _, HL0.out, HM2.out.setBits hv b3 t3, HT2.out.trans (t3.weaken (fun x hx => .inr ⟨v, hv, hx.symm⟩))⟩
      have HM3 := Lib.hid (HM2.out.setBits hv b3 t3)
      obtain ⟨_, a4, _, _, _, _⟩ := HM3.out.file hv
      have a5 := (HRB.out w3 (HT2.out.trans (t3.weaken (fun x hx => .inr ⟨v, hv, hx.symm⟩)))).1
      clear b3 t3 HM2 HT2 HL0 HM3
      go_upto_region 12 with fail
      clear a4
      go_wp2_with fail
      obtain ⟨bc, hbc⟩ : ∃ bc, bc = decide (0 ≤ (fl F v).css) := ⟨_, rfl⟩
      refine (valid (ixv (fl F v).css) bc (by rw [hbc]; exact ixb HOK.out.css.2 hn) w3).mono ?_
      rintro x w4 ⟨rfl, k4⟩
      have HLP4 : Hid (Lp w cb LB ob F J EB PB S b k v d e [] w4) := Lib.hid (HLP.out.kept k4)
      have b5 := k4.cell a5
      have HBC := Lib.hid hbc
      clear k4 a5 hbc HLP
      go_upto_if 72 with (fail)
      go_cut [] (fun W => Hid (Lp w cb LB ob F J EB PB S b k v d e (cssAdj (fl F v).css) W))
      case first => as_aux_lemma =>
        cases bc
        · have HR : Hid (Lp w cb LB ob F J EB PB S b k v d e (cssAdj (fl F v).css) w4) := Lib.hid (by
            have h0 : ¬ 0 ≤ (fl F v).css := by simpa using HBC.out.symm
            unfold cssAdj
            rw [if_neg h0]
            exact HLP4.out)
          clear HBC
          go_wp2_with fail
          go_meet
          exact HR
        · have hc : 0 ≤ (fl F v).css := by simpa using HBC.out.symm
          obtain ⟨c, hcc⟩ := Int.eq_ofNat_of_zero_le hc
          have hlt : c < F.length := by have := HOK.out.css.2; omega
          have HA : Hid (cssAdj (fl F v).css = [c]) := Lib.hid (by unfold cssAdj; rw [if_pos hc, hcc]; rfl)
          have HMEM : Hid (c ∈ adj F v) := Lib.hid (by unfold adj; rw [HA.out]; simp)
          rw [ixp hc, hcc] at b5
          have et := Lib.hid (show 4294967295 - (4294967295 - (c : Int)) = (c : Int) by omega)
          have HG := Lib.hid (fun W => get (4294967295 - (c : Int)) (by omega) (by omega) W)
          generalize 4294967295 - (c : Int) = f at *
          clear hcc hc HBC
          go_wp2_with fail
          refine (HG.out _).mono ?_
          rintro e5 w5 ⟨rfl, k5⟩
          obtain ⟨d5, e5, q1, q2, q3⟩ := HLP4.out.kept k5
          have HCC := Lib.hid (HIH.out w5 d5 e5 [] c q1 q2 q3 hlt HMEM.out)
          clear k5 b5 q1 q2 q3
          go_wp2_with fail
          rw [et.out]
          refine HCC.out.mono ?_
          rintro x6 w6 ⟨rfl, hL6⟩
          have HL6 : Hid (Lp w cb LB ob F J EB PB S b k v d e (cssAdj (fl F v).css) w6) := Lib.hid (by rw [HA.out]; exact hL6)
          clear hL6 HCC
          go_wp2_with fail
          go_meet
          exact HL6
      case rest =>
        obtain ⟨wa, rfl⟩ : ∃ wa : World, wa = wc := ⟨_, rfl⟩
        have HLP5 := hcut
        clear hcut HLP4 b5 HBC
        have HR0 : Hid (AtR w cb LB ob F J EB PB S b k v d e (.int .i64 0) wa) := Lib.hid ⟨0, Nat.zero_le _, rfl, by rw [show recsAdj (fl F v).recs 0 = [] from rfl, List.append_nil]; exact HLP5.out⟩
        obtain ⟨_, _, _, _, hT5⟩ := HLP5.out
        have a6 := (HRB.out wa hT5).2.1
        clear hT5 HLP5
        have hR : (fl F v).recs.length ≤ 262144 := (HLEN.out v hv).1
        go_upto_region 15 with fail
        clear a6
        go_loopw [88] (fun t88 W => AtR w cb LB ob F J EB PB S b k v d e t88 W) (fun t88 _ => (fl F v).recs.length - (intOf t88).toNat)
        case atStart => exact HR0.out
        case round =>
          obtain ⟨q, hq, rfl, d2, e2, hL, hM, hTu⟩ := hrel
          have HL2 := Lib.hid hL
          have HM2 := Lib.hid hM
          have HT2 := Lib.hid hTu
          obtain ⟨wo, rfl⟩ : ∃ wo : World, wo = wr := ⟨_, rfl⟩
          clear hL hTu HR0
          by_cases hlt : q < (fl F v).recs.length
          · obtain ⟨_, _, _, r4⟩ := HRB.out wo HT2.out
            obtain ⟨cs, hl, hr, ho, h10, h14⟩ := r4 q hlt
            clear r4 hM
            have hsz : (Try.prog.info? 147).map (·.size) = some cs.length := by rw [hl]; exact sizeR147
            have k0 : (q : Int) < ((fl F v).recs.length : Int) := by omega
            have htgt := HOK.out.tgt q hlt
            go_upto_region 17 with (first | (with_reducible refine wpList_load_mid rfl 147 (.tmp 90) rfl rb (q * 15) rfl cs _ hr Try.underlying147 rfl hsz ?_) | (with_reducible refine wpList_store_mid rfl 147 (.tmp 12) (.tmp 91) rfl _ 0 cs.toArray rfl rfl (there_new _ _ _ _ (by simp [hl])) (by simpa using hsz) ho ?_))
            have hbx := boxed wo 147 zR147 cs (by rw [hl]; rfl)
            unfold zR147 at hbx
            generalize (wo.alloc (.cells #[.pointer none, .pointer none, .string ⟨#[]⟩, .string ⟨#[]⟩, .string ⟨#[]⟩, .string ⟨#[]⟩, .int .u8 0, .int .i32 0, .int .i32 0, .int .i32 0, .int .u32 0, .int .u32 0, .int .u16 0, .int .u8 0, .int .u8 0] 147)).setCells wo.heap.size 0 cs = w3 at *
            have K3 := Lib.hid hbx.1
            have b10 := hbx.2 10 _ h10
            have B14 := Lib.hid (hbx.2 14 _ h14)
            clear hbx hl hr ho h10 h14 hsz
            generalize wo.heap.size = bx at *
            generalize hTG : (rcd (fl F v).recs q).tgt = tg at *
            generalize (rcd (fl F v).recs q).kind = kd at *
            have HTG := Lib.hid hTG
            clear hTG
            have HM3 := Lib.hid (HM2.out.kept K3.out)
            have HT3 := Lib.hid (HT2.out.kept K3.out)
            have HSUC := Lib.hid (recsAdj_succ (fl F v).recs q)
            clear HM2 HT2
            by_cases h0 : 0 ≤ tg
            · obtain ⟨c, hcc⟩ := Int.eq_ofNat_of_zero_le h0
              subst hcc
              have hcl : c < F.length := by omega
              have HA : Hid (recsAdj (fl F v).recs (q + 1) = recsAdj (fl F v).recs q ++ [c]) := Lib.hid (by rw [HSUC.out, HTG.out, if_pos h0]; rfl)
              have HMEM : Hid (c ∈ adj F v) := Lib.hid (mem_recs hlt (by rw [HTG.out]; exact h0) (by rw [HTG.out]; rfl))
              have HX := Lib.hid (show ixv (c : Int) = 4294967295 - (c : Int) from ixp h0)
              have hval := Lib.hid (fun W => valid (ixv (c : Int)) true (by rw [HX.out]; simp; omega) W)
              have HEX := Lib.hid (fun W (hM : MemR W cb LB ob F J EB PB d2 e2) (hk : W.cell? ⟨bx, 14, none⟩ = some (.int .u8 (kd : Int))) (hs : W.cell? ⟨bx, 10, none⟩ = some (.int .u32 (ixv (c : Int)))) => isExt W cb LB ob F J EB PB d2 e2 bx kd v (c : Int) hM h0 (by omega) hk hs)
              have HG := Lib.hid (fun W => get (ixv (c : Int)) (by rw [HX.out]; omega) (by rw [HX.out]; omega) W)
              have et := Lib.hid (show 4294967295 - ixv (c : Int) = (c : Int) by rw [HX.out]; omega)
              generalize ixv (c : Int) = f at *
              clear htgt h0 HSUC HX
              go_wp2_with fail
              refine (hval.out w3).mono ?_
              rintro e5 w5 ⟨rfl, k5⟩
              have HM5 := Lib.hid (HM3.out.kept k5)
              have HT5 := Lib.hid (HT3.out.kept k5)
              have b5 := k5.cell b10
              have B5 := Lib.hid (k5.cell B14.out)
              clear k5 b10 B14 HM3 HT3
              go_wp2_with fail
              refine (HEX.out w5 HM5.out B5.out b5).mono ?_
              rintro e6 w6 ⟨rfl, k6⟩
              have HM6 := Lib.hid (HM5.out.kept k6)
              have HT6 := Lib.hid (HT5.out.kept k6)
              have b6 := k6.cell b5
              clear k6 b5 HM5 HT5 B5 HEX hval
              go_wp2_with fail
              refine (HG.out w6).mono ?_
              rintro e7 w7 ⟨rfl, k7⟩
              have HM7 := Lib.hid (HM6.out.kept k7)
              have HT7 := Lib.hid (HT6.out.kept k7)
              clear k7 b6 HM6 HT6 HG
              have HCC := Lib.hid (HIH.out w7 d2 e2 _ c HL2.out HM7.out HT7.out hcl HMEM.out)
              go_wp2_with fail
              rw [et.out]
              refine HCC.out.mono ?_
              rintro x8 w8 ⟨rfl, hL8⟩
              have HL8 : Hid (Lp w cb LB ob F J EB PB S b k v d e (cssAdj (fl F v).css ++ recsAdj (fl F v).recs (q + 1)) w8) := Lib.hid (by rw [HA.out, ← List.append_assoc]; exact hL8)
              clear hL8 HCC
              go_wp2_with fail
              go_roundw
              case rel => exact ⟨q + 1, by omega, by go_num, HL8.out⟩
              case measure => simp [intOf]; omega
            · have HA : Hid (recsAdj (fl F v).recs (q + 1) = recsAdj (fl F v).recs q) := Lib.hid (by rw [HSUC.out, HTG.out, if_neg h0, List.append_nil])
              have hval := Lib.hid (fun W => valid (ixv tg) false (by rw [ixn (by omega)]; rfl) W)
              generalize ixv tg = f at *
              clear htgt h0 HSUC
              go_wp2_with fail
              refine (hval.out w3).mono ?_
              rintro e5 w5 ⟨rfl, k5⟩
              have HL8 : Hid (Lp w cb LB ob F J EB PB S b k v d e (cssAdj (fl F v).css ++ recsAdj (fl F v).recs (q + 1)) w5) := Lib.hid (by rw [HA.out]; exact ⟨d2, e2, HL2.out, HM3.out.kept k5, HT3.out.kept k5⟩)
              clear k5 b10
              go_wp2_with fail
              go_roundw
              case rel => exact ⟨q + 1, by omega, by go_num, HL8.out⟩
              case measure => simp [intOf]; omega
          · obtain rfl : q = (fl F v).recs.length := by omega
            have hP : (fl F v).parts.length ≤ 262144 := (HLEN.out v hv).2.1
            have HP0 : Hid (AtP w cb LB ob F J EB PB S b k v d e (.int .i64 0) wo) := Lib.hid ⟨0, Nat.zero_le _, rfl, by rw [show partsAdj v (fl F v).parts 0 = [] from rfl, List.append_nil]; exact ⟨d2, e2, HL2.out, HM2.out, HT2.out⟩⟩
            have a7 := (HRB.out wo HT2.out).2.2.1
            clear HL2 HM2 HT2 hM
            go_upto_region 21 with fail
            clear a7
            go_loopw [115] (fun t115 W => AtP w cb LB ob F J EB PB S b k v d e t115 W) (fun t115 _ => (fl F v).parts.length - (intOf t115).toNat)
            case atStart => exact HP0.out
            case round =>
              obtain ⟨j, hj, rfl, d3, e3, hL, hM, hTu⟩ := hrel
              have HL3 := Lib.hid hL
              have HM3 := Lib.hid hM
              have HT3 := Lib.hid hTu
              obtain ⟨wp, rfl⟩ : ∃ wp : World, wp = wr := ⟨_, rfl⟩
              clear hL hTu HP0
              by_cases hlt : j < (fl F v).parts.length
              · obtain ⟨db, hdb⟩ := HPB.out j hlt
                obtain ⟨cs, hl, hr, ho, h7⟩ := (hdb wp HT3.out).1
                have HDB := Lib.hid (fun W hW => (hdb W hW).2)
                clear hdb hM
                have hsz : (Try.prog.info? 83).map (·.size) = some cs.length := by rw [hl]; exact sizeP83
                have k0 : (j : Int) < ((fl F v).parts.length : Int) := by omega
                have hD : (prt (fl F v).parts j).deps.length ≤ 262144 := ((HLEN.out v hv).2.2 j hlt).2
                go_upto_region 23 with (first | (with_reducible refine wpList_load_mid rfl 83 (.tmp 117) rfl (PB v) (j * 11) rfl cs _ hr Try.underlying83 rfl hsz ?_) | (with_reducible refine wpList_store_mid rfl 83 (.tmp 14) (.tmp 118) rfl _ 0 cs.toArray rfl rfl (there_new _ _ _ _ (by simp [hl])) (by simpa using hsz) ho ?_))
                have hbx := boxed wp 83 zP83 cs (by rw [hl]; rfl)
                unfold zP83 at hbx
                generalize (wp.alloc (.cells #[.slice none 0 0, .slice none 0 0, .slice none 0 0, .slice none 0 0, .map none, .map none, .map none, .slice none 0 0, .bool false, .bool false, .bool false] 83)).setCells wp.heap.size 0 cs = w4 at *
                have K4 := Lib.hid hbx.1
                have b7 := hbx.2 7 _ h7
                clear hbx hl hr ho h7 hsz
                generalize wp.heap.size = bx at *
                have HD0 : Hid (AtD w cb LB ob F J EB PB S b k v d e j (.int .i64 0) w4) := Lib.hid ⟨0, Nat.zero_le _, rfl, by rw [show depsAdj v (prt (fl F v).parts j).deps 0 = [] from rfl, List.append_nil]; exact ⟨d3, e3, HL3.out, HM3.out.kept K4.out, HT3.out.kept K4.out⟩⟩
                clear HL3 HM3 HT3 K4
                go_upto_region 24 with fail
                clear b7
                go_loopw [122] (fun t122 W => AtD w cb LB ob F J EB PB S b k v d e j t122 W) (fun t122 _ => (prt (fl F v).parts j).deps.length - (intOf t122).toNat)
                case atStart => exact HD0.out
                case round =>
                  obtain ⟨q, hq, rfl, d5, e5, hL, hM, hTu⟩ := hrel
                  have HL5 := Lib.hid hL
                  have HM5 := Lib.hid hM
                  have HT5 := Lib.hid hTu
                  clear hL hTu HD0 hM
                  by_cases hlt2 : q < (prt (fl F v).parts j).deps.length
                  · obtain ⟨c0, c1⟩ := HDB.out _ HT5.out q hlt2
                    have HK := Lib.hid (HOK.out.dep j hlt q hlt2).1
                    have HSUC := Lib.hid (depsAdj_succ v (prt (fl F v).parts j).deps q)
                    have k1 : (q : Int) < ((prt (fl F v).parts j).deps.length : Int) := by omega
                    have HMEM := Lib.hid (mem_deps hlt hlt2)
                    obtain ⟨⟨x1, x2⟩, hx⟩ : ∃ x, x = lk.dep (prt (fl F v).parts j).deps q := ⟨_, rfl⟩
                    rw [← hx] at c0 c1
                    have HK1 : Hid (x1 < F.length) := Lib.hid (by have := HK.out; rw [← hx] at this; exact this)
                    have HX : Hid ((x1, x2) = lk.dep (prt (fl F v).parts j).deps q) := Lib.hid hx
                    simp only at c0 c1
                    clear hx HK
                    by_cases hne : x1 = v
                    · have HL8 : Hid (Lp w cb LB ob F J EB PB S b k v d e (cssAdj (fl F v).css ++ recsAdj (fl F v).recs (fl F v).recs.length ++ partsAdj v (fl F v).parts j ++ depsAdj v (prt (fl F v).parts j).deps (q + 1)) wr) := Lib.hid (by
                        rw [HSUC.out, ← HX.out, if_neg (by simp [hne]), List.append_nil]
                        exact ⟨d5, e5, HL5.out, HM5.out, HT5.out⟩)
                      have hn1 : ((x1 : Int) != (v : Int)) = false := by simp [hne]
                      clear hne HMEM HSUC HX HK1 HL5 HM5 HT5
                      go_wp2_with fail
                      have HL9 : Hid (Lp w cb LB ob F J EB PB S b k v d e (cssAdj (fl F v).css ++ recsAdj (fl F v).recs (fl F v).recs.length ++ partsAdj v (fl F v).parts j ++ depsAdj v (prt (fl F v).parts j).deps (q + 1)) (wr.alloc (.cells #[.int .u32 (x1 : Int), .int .u32 (x2 : Int)] 150))) := Lib.hid (HL8.out.kept ((Kept.refl _).alloc _))
                      go_roundw
                      case rel => exact ⟨q + 1, by omega, by go_num, HL9.out⟩
                      case measure => simp [intOf]; omega
                    · have hn1 : ((x1 : Int) != (v : Int)) = true := by simp; omega
                      have HA : Hid (depsAdj v (prt (fl F v).parts j).deps (q + 1) = depsAdj v (prt (fl F v).parts j).deps q ++ [x1]) := Lib.hid (by rw [HSUC.out, ← HX.out, if_pos hne])
                      have HMM : Hid (x1 ∈ adj F v) := Lib.hid (by have := HMEM.out; rw [← HX.out] at this; exact this hne)
                      have HKA := Lib.hid ((Kept.refl wr).alloc (.cells #[.int .u32 (x1 : Int), .int .u32 (x2 : Int)] 150))
                      have HCC := Lib.hid (HIH.out (wr.alloc (.cells #[.int .u32 (x1 : Int), .int .u32 (x2 : Int)] 150)) d5 e5 _ x1 HL5.out (HM5.out.kept HKA.out) (HT5.out.kept HKA.out) HK1.out HMM.out)
                      clear hne HMEM HSUC HX HL5 HM5 HT5 HKA
                      go_wp2_with fail
                      refine HCC.out.mono ?_
                      rintro x8 w8 ⟨rfl, hL8⟩
                      have HL8 : Hid (Lp w cb LB ob F J EB PB S b k v d e (cssAdj (fl F v).css ++ recsAdj (fl F v).recs (fl F v).recs.length ++ partsAdj v (fl F v).parts j ++ depsAdj v (prt (fl F v).parts j).deps (q + 1)) w8) := Lib.hid (by rw [HA.out, ← List.append_assoc]; exact hL8)
                      clear hL8 HCC
                      go_wp2_with fail
                      go_roundw
                      case rel => exact ⟨q + 1, by omega, by go_num, HL8.out⟩
                      case measure => simp [intOf]; omega
                  · obtain rfl : q = (prt (fl F v).parts j).deps.length := by omega
                    have HL8 : Hid (Lp w cb LB ob F J EB PB S b k v d e (cssAdj (fl F v).css ++ recsAdj (fl F v).recs (fl F v).recs.length ++ partsAdj v (fl F v).parts (j + 1)) wr) := Lib.hid (by
                      rw [partsAdj_succ, ← List.append_assoc]
                      exact ⟨d5, e5, HL5.out, HM5.out, HT5.out⟩)
                    clear HL5 HM5 HT5
                    go_wp2_with fail
                    go_roundw
                    case rel => exact ⟨j + 1, by omega, by go_num, HL8.out⟩
                    case measure => simp [intOf]; omega
              · obtain rfl : j = (fl F v).parts.length := by omega
                obtain ⟨d9, e9, q1, q2, q3⟩ := HFIN.out wp ⟨d3, e3, HL3.out, HM3.out, HT3.out⟩
                have HR : Hid (Marked w cb LB ob F J EB PB S b k v d e (.returned (.tuple #[])) wp) := Lib.hid ⟨rfl, d9, e9, q1, q2, q3⟩
                clear HL3 HM3 HT3 hM q1 q2 q3
                go_wp2_with fail
                go_end0
                exact HR.out
end
end Go.Proofs.Ytgnccfofhcbjjaa.lk
