/-
  The law's two files and the list of statements over this seat's program.
  Conditions: none.
-/
import Derived.Test.YtilhckihpgfkfaaDoorSd
import Derived.Test.YtilhckihpgfkfaaDoorMk1
namespace Go.Proofs.YtilhckihpgfkfaaDoor.sr
open Go.ChangeShapes Go.WideShapes Go.ChangeAt Go.RowKit
open kit

/-- a file's description -/
structure Fd where
  wrap : Int
  async : Bool
  live : Bool
  cjs : Bool
  ws : Int
  wi : Int
  ei : Int
def fdC (d : Fd) (t : Value) : List Value := [.int .u8 d.wrap, .bool d.async, .bool d.live, .bool d.cjs, .int .u32 d.ws, .int .u32 d.wi, .int .u32 0, .int .u32 d.ei, t]
/-- the two files as the law hands them over; the first has one import record, the second none -/
def Files (w : World) (v : Value) (d0 d1 : Fd) (tg : Int) : Prop := ∃ fb tb, v = .slice (some ⟨fb, 0, none⟩) 2 2 ∧ Blk w fb 131 (fdC d0 (.slice (some ⟨tb, 0, none⟩) 1 1) ++ fdC d1 (.slice none 0 0)) ∧ Blk w tb 2 [.int .i64 tg]
theorem Files.kept {w w2 : World} {v : Value} {d0 d1 : Fd} {tg : Int} (h : Files w v d0 d1 tg) (k : Kept w w2) : Files w2 v d0 d1 tg := by
  obtain ⟨fb, tb, e, h1, h2⟩ := h
  exact ⟨fb, tb, e, h1.kept k, h2.kept k⟩
def MadeF (w : World) (d0 d1 : Fd) (tg : Int) (e : Ending) (w' : World) : Prop := (∃ v, e = .returned v ∧ Files w' v d0 d1 tg) ∧ Kept w w'
set_option maxRecDepth 100000 in
set_option maxHeartbeats 4000000 in
theorem removeFiles (w : World) (external cjs live async : Bool) (ei wrap wi : Int) : Calls Tryd.prog 5 #[.bool external, .bool cjs, .int .u32 ei, .int .u8 wrap, .bool live, .bool async, .int .u32 wi] w (MadeF w ⟨0, false, true, cjs, 0, 0, ei⟩ ⟨wrap, async, live, false, 1, wi, 0⟩ (if external then -1 else 1)) := by
  cases external
  all_goals
    go_enter Tryd.func5, Tryd.ntmps5
    go_wp2_with fail
    go_ret
    exact ⟨⟨_, rfl, w.heap.size + 1, w.heap.size, rfl, Blk.new' _ 131 _ _ (by simp), (Blk.new w 2 _).alloc _⟩, ((Kept.refl w).alloc _).alloc _⟩
theorem index (w : World) (a : Int) (h0 : 0 ≤ a) (h1 : a ≤ 4294967295) : Calls Tryd.prog 12 #[.int .u32 a] w fun e w' => e = .returned (.agg #[.int .u32 (4294967295 - a)]) ∧ Kept w w' := by
  have hf := flip32 a h0 h1
  go_enter Tryd.func12, Tryd.ntmps12
  go_wp2
  exact bodyPost_ret (v := .agg #[.int .u32 (4294967295 - a)]) (by simp [results, Tryd.results12, go_sem]) rfl ⟨rfl, (Kept.refl _).alloc _⟩
def MadeM (w : World) (e : Ending) (w' : World) : Prop := (∃ g gcs, e = .returned (.agg #[.slice (some ⟨g, 0, none⟩) 2 2]) ∧ Blk w' g 170 gcs ∧ gcs.length = 2 ∧ w.heap.size ≤ g) ∧ Kept w w'
set_option maxRecDepth 100000 in
theorem symMap (w : World) : Calls Tryd.prog 11 #[.int .i64 2] w (MadeM w) := by
  obtain ⟨C, l1, _, g1, m1⟩ := makeN1 (T := 111) (E := 170) (size := 1) (bytes := 24) Tryd.underlying111 (by kernel_rfl) (by kernel_rfl) 2 (by omega) (by omega)
  clear g1
  have m2 : ∀ w : World, (Instr.makeSlice 111 (.int .i64 2) (.int .i64 2)).run Tryd.prog w = .ok (.slice (some ⟨w.heap.size, 0, none⟩) 2 2) (w.alloc (.cells C.toArray 170)) := m1
  clear m1
  go_enter Tryd.func11, Tryd.ntmps11
  go_wp2_with fail
  exact bodyPost_ret (v := .agg #[.slice (some ⟨w.heap.size + 1, 0, none⟩) 2 2]) (by simp [results, Tryd.results11, go_sem]) rfl ⟨⟨_, C, rfl, Blk.new' _ 170 C _ (by simp), by omega, by omega⟩, ((Kept.refl w).alloc _).alloc _⟩
/-- a JSRepr's cells -/
def kdv (b : Bool) : Int := if b then 1 else 0
def JsL (js : List Value) (d : Fd) : Prop := js[62]? = some (.int .u8 (kdv d.cjs)) ∧ js[52]? = some (.int .u32 d.ws) ∧ js[53]? = some (.int .u32 d.wi) ∧ js[48]? = some (.int .u32 0) ∧ js[49]? = some (.int .u32 d.ei) ∧ js[11]? = some (.int .u8 d.wrap) ∧ js[10]? = some (.bool d.async)
theorem newBlk {u u6 : World} {Z : Array Value} {T : TypeId} (P : List Value → Prop) (h : (u.alloc (.cells Z T)).drew = u6) (hp : P Z.toList) : ∃ js, Blk u6 u.heap.size T js ∧ P js ∧ Kept u u6 := by
  subst h
  exact ⟨Z.toList, (Blk.new' u T Z.toList _ rfl).drew, hp, ((Kept.refl u).alloc _).drew⟩
/-- a source's symbols, none linked -/
def Unl (scs : List Value) : Prop := ∀ j, j < 8 → scs[j * 10 + 2]? = some (.int .u32 4294967295) ∧ scs[j * 10 + 3]? = some (.int .u32 4294967295)
/-- file 0 is laid -/
def F0 (W : World) (lcs gcs : List Value) (d : Fd) (tg : Int) : Prop := ∃ J RB s js rcs scs, lcs[2]? = some (.iface 168 (.pointer (some ⟨J, 0, none⟩))) ∧ gcs[0]? = some (.slice (some ⟨s, 0, none⟩) 8 8) ∧ Blk W J 196 js ∧ JsL js d ∧ js[35]? = some (.slice (some ⟨RB, 0, none⟩) 1 1) ∧ Blk W RB 145 rcs ∧ rcs[10]? = some (.int .u32 (if tg < 0 then 0 else 4294967294)) ∧ rcs[7]? = some (.int .i32 0) ∧ Blk W s 202 scs ∧ Unl scs
/-- file 1 is laid -/
def F1 (W : World) (lcs : List Value) (d : Fd) : Prop := ∃ J js, lcs[26]? = some (.iface 168 (.pointer (some ⟨J, 0, none⟩))) ∧ lcs[47]? = some (.bool d.live) ∧ Blk W J 196 js ∧ JsL js d
/-- k files are laid -/
structure Cx (w W : World) (cb ob LB g : Nat) (fmt : Int) (d0 d1 : Fd) (tg : Int) (k : Nat) : Prop where
  kept : Kept w W
  c : ∃ ccs ocs, Blk W cb 127 ccs ∧ ccs[0]? = some (.pointer (some ⟨ob, 0, none⟩)) ∧ ccs[10]? = some (.slice (some ⟨LB, 0, none⟩) 2 2) ∧ ccs[12]? = some (.slice (some ⟨g, 0, none⟩) 2 2) ∧ Blk W ob 96 ocs ∧ ocs[98]? = some (.int .u8 fmt)
  lo : w.heap.size ≤ LB ∧ w.heap.size ≤ g
  f : ∃ lcs gcs, Blk W LB 167 lcs ∧ lcs.length = 48 ∧ Blk W g 170 gcs ∧ gcs.length = 2 ∧ (0 < k → F0 W lcs gcs d0 tg) ∧ (1 < k → F1 W lcs d1)
section
variable {w W W2 : World} {cb ob LB g : Nat} {fmt tg : Int} {d d0 d1 : Fd} {k : Nat} {lcs gcs : List Value}
theorem F0.kept (h : F0 W lcs gcs d tg) (kk : Kept W W2) : F0 W2 lcs gcs d tg := by
  obtain ⟨J, RB, s, js, rcs, scs, h1, h2, h3, h4, h5, h6, h7, h8, h9, h10⟩ := h
  exact ⟨J, RB, s, js, rcs, scs, h1, h2, h3.kept kk, h4, h5, h6.kept kk, h7, h8, h9.kept kk, h10⟩
theorem F0.far {b T o : Nat} {cs lcs2 gcs2 : List Value} (h : F0 W lcs gcs d tg) (hb : Blk W b T cs) (n1 : T ≠ 196) (n2 : T ≠ 145) (n3 : T ≠ 202) (u : Value) (e1 : lcs2[2]? = lcs[2]?) (e2 : gcs2[0]? = gcs[0]?) : F0 (W.setCell ⟨b, o, none⟩ u) lcs2 gcs2 d tg := by
  obtain ⟨J, RB, s, js, rcs, scs, h1, h2, h3, h4, h5, h6, h7, h8, h9, h10⟩ := h
  exact ⟨J, RB, s, js, rcs, scs, e1.trans h1, e2.trans h2, h3.far (p := ⟨b, o, none⟩) (h3.apart hb n1.symm) u, h4, h5, h6.far (p := ⟨b, o, none⟩) (h6.apart hb n2.symm) u, h7, h8, h9.far (p := ⟨b, o, none⟩) (h9.apart hb n3.symm) u, h10⟩
theorem F1.kept (h : F1 W lcs d) (kk : Kept W W2) : F1 W2 lcs d := by
  obtain ⟨J, js, h1, h2, h3, h4⟩ := h
  exact ⟨J, js, h1, h2, h3.kept kk, h4⟩
theorem Cx.kept2 (h : Cx w W cb ob LB g fmt d0 d1 tg k) (kk : Kept W W2) : Cx w W2 cb ob LB g fmt d0 d1 tg k := by
  obtain ⟨ccs, ocs, b1, e1, e2, e3, b2, e4⟩ := h.c
  obtain ⟨lcs, gcs, b3, l3, b4, l4, f0, f1⟩ := h.f
  exact ⟨h.kept.trans kk, ⟨ccs, ocs, b1.kept kk, e1, e2, e3, b2.kept kk, e4⟩, h.lo, lcs, gcs, b3.kept kk, l3, b4.kept kk, l4, fun q => (f0 q).kept kk, fun q => (f1 q).kept kk⟩
end
/-- the symbols' links are laid, j of them -/
def TSy (u6 : World) (s : Nat) (t : Value) (W : World) : Prop := ∃ j : Nat, j ≤ 8 ∧ t = .int .i64 (j : Int) ∧ Kept u6 W ∧ ∃ scs, Blk W s 202 scs ∧ scs.length = 80 ∧ ∀ i, i < j → scs[i * 10 + 2]? = some (.int .u32 4294967295) ∧ scs[i * 10 + 3]? = some (.int .u32 4294967295)
end Go.Proofs.YtilhckihpgfkfaaDoor.sr
