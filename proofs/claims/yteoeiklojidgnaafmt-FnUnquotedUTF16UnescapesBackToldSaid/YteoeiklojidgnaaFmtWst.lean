/-
  What the writer of an escaped text keeps from round to round over this seat's program: its printer, its row of bytes, its four spare bytes; appends onto that row; the rune's bytes by the library's own text.
  Conditions: the output stays below 2^40 bytes.
-/
import Derived.Test.YteoeiklojidgnaaFmtPrn
import Derived.Test.YteoeiklojidgnaaFmtUb
import Derived.Test.YteoeiklojidgnaaFmtShelf
import Derived.Lib.RuneBytes
namespace Go.Proofs.YteoeiklojidgnaaFmt.uw
open Go.ChangeShapes Go.WideShapes Go.ChangeAt Go.RowKit
open kit pr uq

structure St (w0 : World) (g q : Nat) (cs : List Value) (W : World) (A : Option Addr) (c : Nat) (L : List Int) : Prop where
  kept : Kept w0 W
  blk : Blk W g 88 cs
  own : OwnB W A c L
  lo : ∀ k, A.map (·.block) = some k → w0.heap.size ≤ k
  lg : w0.heap.size ≤ g
  lq : w0.heap.size ≤ q
  tmp : ∃ ct, ct.length = 4 ∧ Blk W q 5 ct
  sep : A.map (·.block) ≠ some q
section
variable {w0 W W2 : World} {g q c c2 : Nat} {cs : List Value} {A A2 : Option Addr} {L L2 : List Int}
theorem St.neg (h : St w0 g q cs W A c L) : A.map (·.block) ≠ some g := h.own.ne h.blk
theorem St.kept2 (h : St w0 g q cs W A c L) (k : Kept W W2) : St w0 g q cs W2 A c L := by
  obtain ⟨ct, h1, h2⟩ := h.tmp
  exact ⟨h.kept.trans k, h.blk.kept k, own_kept h.own k, h.lo, h.lg, h.lq, ⟨ct, h1, h2.kept k⟩, h.sep⟩
theorem St.push (h : St w0 g q cs W A c L) (hs : Step W W2 W.heap.size A A2) (ho : OwnB W2 A2 c2 L2) : St w0 g q cs W2 A2 c2 L2 := by
  obtain ⟨ct, h1, h2⟩ := h.tmp
  have hg := h.blk.lt
  have hq := h2.lt
  have hk := h.kept.size
  have hA : ∀ k, A2.map (·.block) = some k → A.map (·.block) = some k ∨ W.heap.size ≤ k := by
    intro k e
    rcases hs.row with r | ⟨q2, r1, r2⟩
    · exact .inl (by rw [← r]; exact e)
    · rw [r2] at e
      injection e with e
      exact .inr (by omega)
  refine ⟨⟨hs.os.trans h.kept.os, hs.tape.trans h.kept.tape, hs.output.trans h.kept.output, Nat.le_trans hk hs.size, fun k hl => ?_⟩, ?_, ho, fun k e => ?_, h.lg, h.lq, ⟨ct, h1, ?_⟩, fun e => ?_⟩
  · exact (hs.block k (by omega) (by omega) (fun e => by have := h.lo k e; omega)).trans (h.kept.block k hl)
  · exact (hs.block g hg (by omega) h.neg).trans h.blk
  · rcases hA k e with r | r
    · exact h.lo k r
    · omega
  · exact (hs.block q hq (by omega) h.sep).trans h2
  · rcases hA q e with r | r
    · exact h.sep r
    · omega
end

/-- the state at a world, its row's length under a name of its own -/
def SN (w0 : World) (g q : Nat) (cs : List Value) (W : World) (A : Option Addr) (n c : Nat) (L : List Int) : Prop := L.length = n ∧ L.length ≤ 1099511627776 ∧ St w0 g q cs W A c L

theorem wp_str {w0 : World} {g q : Nat} {cs : List Value} {ops : Array Oper} {rest : List Oper} {o : Oper} {a : Act} {Q : Exit → Act → World → Prop} (w : World) (hgd : o.guard = none) (sl x : Operand)
    (ho : o.op = .call { callee := .builtin .append, args := #[sl, x], argTypes := #[22, 9] })
    (A : Option Addr) (n c : Nat) (L : List Int) (hs : a.eval sl = .slice A n c) (HS : Hid (SN w0 g q cs w A n c L)) (s : ByteArray) (hx : a.eval x = .string s) (hb : s.size ≤ 100)
    (h : ∀ A2 n2 c2 w2, Hid (L.length ≤ 1099511627000 → SN w0 g q cs w2 A2 n2 c2 (L ++ bytesOf s)) → wpList Tryf.prog ops Q rest (a.put o.dst (.slice A2 n2 c2)) w2) :
    wpList Tryf.prog ops Q (o :: rest) a w := by
  obtain ⟨e, hl, hst⟩ := HS.out
  subst e
  refine wp_append_string w hgd sl x ho A c L hs hst.own s hx (by omega) (fun A2 c2 w2 h1 h2 => ?_)
  exact h A2 _ c2 w2 (Lib.hid fun hb2 => ⟨rfl, by rw [List.length_append, bytesOf_length]; omega, hst.push h2 h1⟩)

theorem wp_row {w0 : World} {g q : Nat} {cs : List Value} {ops : Array Oper} {rest : List Oper} {o : Oper} {a : Act} {Q : Exit → Act → World → Prop} (w : World) (ys : List Int) (hgd : o.guard = none) (sl x : Operand)
    (ho : o.op = .call { callee := .builtin .append, args := #[sl, x], argTypes := #[22, 22] })
    (A : Option Addr) (n c : Nat) (L : List Int) (hs : a.eval sl = .slice A n c) (HS : Hid (SN w0 g q cs w A n c L)) (m : Nat) (hx : a.eval x = .slice (some ⟨w.heap.size, 0, none⟩) m m) (hm : ys.length = m) (h0 : 0 < m) (hb : m ≤ 100)
    (h : ∀ A2 n2 c2 w2, Hid (L.length ≤ 1099511627000 → SN w0 g q cs w2 A2 n2 c2 (L ++ ys)) → wpList Tryf.prog ops Q rest (a.put o.dst (.slice A2 n2 c2)) w2) :
    wpList Tryf.prog ops Q (o :: rest) a (w.alloc (.cells (ys.map (Value.int .u8)).toArray 5)) := by
  obtain ⟨e, hl, hst⟩ := HS.out
  subst e
  have hst2 := hst.kept2 ((Kept.refl w).alloc (.cells (ys.map (Value.int .u8)).toArray 5))
  refine wp_append_row _ hgd sl x ho A c L hs hst2.own ⟨w.heap.size, 0, none⟩ m m ys hx hm h0 (cells_new w 5 ys) (by omega) (fun A2 c2 w2 hn h1 h2 => ?_)
  exact h A2 _ c2 w2 (Lib.hid fun hb2 => ⟨rfl, by rw [List.length_append]; omega, hst2.push h2 h1⟩)

/-- the append of a fresh row as a step of a region that draws -/
theorem step_row {w0 : World} {g q : Nat} {cs : List Value} {ops : Array Oper} {o : Oper} {a : Act} {K : Act → World → Prop} {Q : Exit → Act → World → Prop} {E : Prop} (w : World) (ys : List Int) (d : Nat) (hd : o.dst = some d) (hgd : o.guard = none) (sl x : Operand)
    (ho : o.op = .call { callee := .builtin .append, args := #[sl, x], argTypes := #[22, 22] })
    (A : Option Addr) (n c : Nat) (L : List Int) (hs : a.eval sl = .slice A n c) (HS : Hid (SN w0 g q cs w A n c L)) (m : Nat) (hx : a.eval x = .slice (some ⟨w.heap.size, 0, none⟩) m m) (hm : ys.length = m) (h0 : 0 < m) (hb : m ≤ 100)
    (h : ∀ A2 n2 c2 w2, Hid (L.length ≤ 1099511627000 → SN w0 g q cs w2 A2 n2 c2 (L ++ ys)) → K (a.put (some d) (.slice A2 n2 c2)) w2) :
    if Region.wanted o (yielded ops a.tmps) = true then Oper.wp Tryf.prog o a (w.alloc (.cells (ys.map (Value.int .u8)).toArray 5)) K Q else E := by
  rw [← hd] at h
  obtain ⟨e, hl, hst⟩ := HS.out
  subst e
  have hst2 := hst.kept2 ((Kept.refl w).alloc (.cells (ys.map (Value.int .u8)).toArray 5))
  have hw : Region.wanted o (yielded ops a.tmps) = true := by simp [Region.wanted, hgd]
  rw [if_pos hw]
  obtain ⟨i0, hi, hz0, hz1, hz2⟩ := info_parts info5
  refine wp_append_lies (P := Tryf.prog) _ sl x 22 ho 0 5 i0 (.int .u8 0) 1 1 Tryf.underlying22 hi hz0 hz1 hz2 rfl (by decide) _ L.length (L.map (Value.int .u8)) hs hst2.own ⟨w.heap.size, 0, none⟩ m m (ys.map (Value.int .u8)) hx (by simpa using hm) (cells_new w 5 ys) ?_ h0 (by unfold maxLen; omega) (by omega) (Nat.zero_le _) _ rfl ?_
  · intro u hu
    obtain ⟨y, _, rfl⟩ := List.mem_map.1 hu
    rfl
  · intro g2 cap w2 hown2 hgrow hat hlt
    have hl2 : L.length + m = (L ++ ys).length := by rw [List.length_append, hm]
    rw [hl2] at hown2 ⊢
    rw [← List.map_append] at hown2
    have hn : NewRow (w.alloc (.cells (ys.map (Value.int .u8)).toArray 5)) A (some ⟨g2, 0, none⟩) := by
      rcases hat with e | e
      · left
        rcases A with _ | ad2
        · cases e
        · simp [Value.ownBlock] at e
          simp [e]
      · right
        exact ⟨g2, by omega, rfl⟩
    exact h _ _ _ _ (Lib.hid fun hb2 => ⟨rfl, by rw [List.length_append]; omega, hst2.push (step_of_grown hgrow hn _) hown2⟩)
theorem SN.drew {w0 W : World} {g q n c : Nat} {cs : List Value} {A : Option Addr} {L : List Int} (h : SN w0 g q cs W A n c L) : SN w0 g q cs W.drew A n c L := ⟨h.1, h.2.1, h.2.2.kept2 (Kept.refl W).drew⟩

/-- the digits of hexadecimal numbers, as the printer has them -/
def hexS : ByteArray := ⟨#[48, 49, 50, 51, 52, 53, 54, 55, 56, 57, 65, 66, 67, 68, 69, 70]⟩
set_option maxRecDepth 100000 in
theorem hexRun (v : Int) (h0 : 0 ≤ v) (h1 : v < 16) (W : World) : (Instr.index 9 (.string hexS) (.int .u16 v)).run Tryf.prog W = .ok (.int .u8 (hexd v)) W := by
  have hv : v = 0 ∨ v = 1 ∨ v = 2 ∨ v = 3 ∨ v = 4 ∨ v = 5 ∨ v = 6 ∨ v = 7 ∨ v = 8 ∨ v = 9 ∨ v = 10 ∨ v = 11 ∨ v = 12 ∨ v = 13 ∨ v = 14 ∨ v = 15 := by omega
  rcases hv with rfl | rfl | rfl | rfl | rfl | rfl | rfl | rfl | rfl | rfl | rfl | rfl | rfl | rfl | rfl | rfl <;> rfl

/-- the spare bytes hold ys -/
def Has (W : World) (q : Nat) (ys : List Int) : Prop := ∀ j u, (ys.map (Value.int .u8))[j]? = some u → W.cell? (Addr.add ⟨q, 0, none⟩ j) = some u
theorem wp_tmp {w0 : World} {g q : Nat} {cs : List Value} {ops : Array Oper} {rest : List Oper} {o : Oper} {a : Act} {Q : Exit → Act → World → Prop} (w : World) (ys : List Int) (hgd : o.guard = none) (sl x : Operand)
    (ho : o.op = .call { callee := .builtin .append, args := #[sl, x], argTypes := #[22, 22] })
    (A : Option Addr) (n c : Nat) (L : List Int) (hs : a.eval sl = .slice A n c) (HS : Hid (SN w0 g q cs w A n c L)) (HH : Hid (Has w q ys)) (m d : Nat) (hx : a.eval x = .slice (some ⟨q, 0, none⟩) m d) (hm : ys.length = m) (h0 : 0 < m) (hb : m ≤ 100)
    (h : ∀ A2 n2 c2 w2, Hid (L.length ≤ 1099511627000 → SN w0 g q cs w2 A2 n2 c2 (L ++ ys)) → wpList Tryf.prog ops Q rest (a.put o.dst (.slice A2 n2 c2)) w2) :
    wpList Tryf.prog ops Q (o :: rest) a w := by
  obtain ⟨e, hl, hst⟩ := HS.out
  subst e
  refine wp_append_row _ hgd sl x ho A c L hs hst.own ⟨q, 0, none⟩ m d ys hx hm h0 HH.out (by omega) (fun A2 c2 w2 hn h1 h2 => ?_)
  exact h A2 _ c2 w2 (Lib.hid fun hb2 => ⟨rfl, by rw [List.length_append]; omega, hst.push h2 h1⟩)

theorem heap_setCells (b : Nat) : ∀ (vs : List Value) (o : Nat) (w : World) (k : Nat), k ≠ b → (w.setCells b o vs).heap[k]? = w.heap[k]?
  | [], _, _, _, _ => rfl
  | v :: vs, o, w, k, h => (heap_setCells b vs (o + 1) (w.setCell ⟨b, o, none⟩ v) k h).trans (Below.heap_setCell w ⟨b, o, none⟩ v k h)
theorem size_setCells (b : Nat) : ∀ (vs : List Value) (o : Nat) (w : World), (w.setCells b o vs).heap.size = w.heap.size
  | [], _, _ => rfl
  | v :: vs, o, w => (size_setCells b vs (o + 1) (w.setCell ⟨b, o, none⟩ v)).trans (by simp [World.setCell])
theorem rest_setCells (b : Nat) : ∀ (vs : List Value) (o : Nat) (w : World), (w.setCells b o vs).os = w.os ∧ (w.setCells b o vs).tape = w.tape ∧ (w.setCells b o vs).output = w.output
  | [], _, _ => ⟨rfl, rfl, rfl⟩
  | v :: vs, o, w => rest_setCells b vs (o + 1) (w.setCell ⟨b, o, none⟩ v)
theorem blk_setCells {g : Nat} {t : TypeId} : ∀ (vs : List Value) (o : Nat) (w : World) (cs : List Value), Blk w g t cs → o + vs.length ≤ cs.length →
    ∃ cs2, Blk (w.setCells g o vs) g t cs2 ∧ cs2.length = cs.length ∧ (∀ k, k < o → cs2[k]? = cs[k]?) ∧ ∀ k u, vs[k]? = some u → cs2[o + k]? = some u
  | [], o, w, cs, h, _ => ⟨cs, h, rfl, fun _ _ => rfl, fun k u h => by simp at h⟩
  | v :: vs, o, w, cs, h, hl => by
    obtain ⟨cs2, h1, h2, h3, h4⟩ := blk_setCells vs (o + 1) (w.setCell ⟨g, o, none⟩ v) (cs.set o v) (h.set o v) (by simp at hl ⊢; omega)
    refine ⟨cs2, h1, by rw [h2, List.length_set], fun k hk => ?_, fun k u hu => ?_⟩
    · rw [h3 k (by omega), List.getElem?_set_ne (by omega)]
    · rcases k with _ | k
      · rw [Nat.add_zero, h3 o (by omega), List.getElem?_set_self (by simp at hl; omega)]
        simpa using hu
      · rw [show o + (k + 1) = o + 1 + k by omega]
        exact h4 k u (by simpa using hu)

theorem has19 (f m : Int) (w : World) : Calls Tryf.prog 19 #[.int .u64 f, .int .u64 m] w fun e w' => e = .returned (.bool (!(bits .and .u64 f m == 0))) ∧ w = w' := by
  go_enter Tryf.func19, Tryf.ntmps19
  go_wp2
  go_ret
  exact ⟨rfl, rfl⟩
/-- the features' word, as the law lays it -/
def featOf (asc ni : Bool) : Int := (if asc then 576460752303423488 else 0) + if ni then 68719476736 else 0
theorem feat_asc (ni : Bool) : (!(bits .and .u64 (featOf true ni) 576460752303423488 == 0)) = true := by cases ni <;> decide

/-- the cells of a rune that is none of the surrogates -/
theorem rune_cells {t : Tok} {r : Int} (hv : t.valid) (ht : t = .raw r ∨ t = .u2 r ∨ t = .u3 r ∨ t = .u4 r) : Lib.runeCells r = t.bytes.map (Value.int .u8) := by
  rcases ht with rfl | rfl | rfl | rfl
  · exact runeCells_of (Lib.encodeRuneZ_one hv.1 (by have := hv.2.1; omega))
  · exact runeCells_of (Lib.encodeRuneZ_two (by have := hv.1; omega) (by have := hv.2; omega))
  · obtain ⟨h1, h2, h3⟩ := hv
    exact runeCells_of (Lib.encodeRuneZ_three (by omega))
  · exact runeCells_of (Lib.encodeRuneZ_four (by have := hv.1; omega) (by have := hv.2; omega))
theorem encRune {w0 : World} {g q : Nat} {cs : List Value} (w : World) {A : Option Addr} {n c : Nat} {L : List Int} (h : SN w0 g q cs w A n c L) (t : Tok) (r : Int) (m : Nat) (hv : t.valid) (ht : t = .raw r ∨ t = .u2 r ∨ t = .u3 r ∨ t = .u4 r) (hm : t.bytes.length = m) (mz : Int) (hz : (m : Int) = mz) :
    Calls Tryf.prog 21 #[.slice (some ⟨q, 0, none⟩) 4 4, .int .i32 r] w fun e w' => e = .returned (.int .i64 mz) ∧ SN w0 g q cs w' A n c L ∧ Has w' q t.bytes := by
  obtain ⟨h1, h2, hst⟩ := h
  obtain ⟨ct, hl, hb⟩ := hst.tmp
  have hrc := rune_cells hv ht
  have hml : m ≤ 4 := by rw [← hm]; rcases ht with rfl | rfl | rfl | rfl <;> simp [Tok.bytes]
  have hr : -2147483648 ≤ r ∧ r ≤ 2147483647 := by rcases ht with rfl | rfl | rfl | rfl <;> simp only [Tok.valid] at hv <;> omega
  have hlen : (Lib.runeCells r).length = m := by rw [hrc, List.length_map, hm]
  have key := Any7.utf8_EncodeRune Tryf.laysR30 q 0 4 4 r hr.1 hr.2 w (by omega) (fun j hj => by
    rw [Nat.zero_add, hb.cell j, List.getElem?_eq_getElem (by omega)]; rfl) (fun j _ => hb.free _)
  refine Calls.mono key ?_
  rintro e w' ⟨rfl, rfl⟩
  rw [hlen]
  refine ⟨by rw [hz], ⟨h1, h2, ?_⟩, ?_⟩
  · have hg : g ≠ q := hst.blk.apart hb (by decide)
    obtain ⟨cs2, b1, b2, _, b4⟩ := blk_setCells (Lib.runeCells r) 0 w ct hb (by omega)
    have hrs := rest_setCells q (Lib.runeCells r) 0 w
    refine ⟨⟨hrs.1.trans hst.kept.os, hrs.2.1.trans hst.kept.tape, hrs.2.2.trans hst.kept.output, by rw [size_setCells]; exact hst.kept.size, fun k hk => ?_⟩, ?_, ?_, hst.lo, hst.lg, hst.lq, ⟨cs2, by omega, b1⟩, hst.sep⟩
    · exact (heap_setCells q _ _ w k (by have := hst.lq; omega)).trans (hst.kept.block k hk)
    · exact (heap_setCells q _ _ w g hg).trans hst.blk
    · exact hst.own.keep fun k hk e => heap_setCells q _ _ w k (fun e2 => hst.sep (by rw [← e2]; exact e))
  · obtain ⟨cs2, b1, b2, _, b4⟩ := blk_setCells (Lib.runeCells r) 0 w ct hb (by omega)
    intro j u hu
    have e : (⟨q, 0, none⟩ : Addr).add j = ⟨q, j, none⟩ := by
      unfold Addr.add
      by_cases h : j = 0 <;> simp [h]
    rw [← hrc] at hu
    rw [e, b1.cell j, ← b4 j u hu, Nat.zero_add]
end Go.Proofs.YteoeiklojidgnaaFmt.uw
