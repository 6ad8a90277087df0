/-
  The printer of FnDotThenPair over this seat's program: print, printSpace, printNewline, printIndent, the prefix and the suffix.
  Conditions: the output stays below 2^46 bytes.
-/
import Derived.Test.YtdpljbhbnlcoaaaDx
import Derived.LoopTactic
namespace Go.Proofs.Ytdpljbhbnlcoaaa.dx
open Go.ChangeShapes Go.WideShapes Go.ChangeAt Go.RowKit
open kit pr

/-- the printer's options and its output, all of it newer than w0 -/
structure Q (w0 W : World) (g : Nat) (noArrow mw : Bool) (ind : Int) (xs : List Int) : Prop where
  ex : ∃ cs q c, Blk W g 86 cs ∧ cs[9]? = some (.slice (some ⟨q, 0, none⟩) xs.length c) ∧ cs[24]? = some (.int .u64 (if noArrow then 4 else 0)) ∧ cs[25]? = some (.int .i64 ind) ∧ cs[26]? = some (.int .i64 0) ∧ cs[28]? = some (.bool mw) ∧ cs[59]? = some (.bool false) ∧ OwnX W q c xs ∧ w0.heap.size ≤ q ∧ q ≠ g
  lg : w0.heap.size ≤ g
  be : Kept w0 W
theorem Q.kept {w0 W W2 : World} {g : Nat} {na mw : Bool} {ind : Int} {xs : List Int} (h : Q w0 W g na mw ind xs) (k : Kept W W2) : Q w0 W2 g na mw ind xs := by
  obtain ⟨cs, q, c, h1, h2, h3, h4, h5, h6, h7, h8, h9, h10⟩ := h.ex
  exact ⟨⟨cs, q, c, h1.kept k, h2, h3, h4, h5, h6, h7, h8.same (k.block q h8.lt), h9, h10⟩, h.lg, h.be.trans k⟩
def Done (w0 : World) (g : Nat) (na mw : Bool) (ind : Int) (xs : List Int) (e : Ending) (w' : World) : Prop := e = .returned (.tuple #[]) ∧ Q w0 w' g na mw ind xs

theorem wp_append_x {ops : Array Oper} {rest : List Oper} {o : Oper} {a : Act} {K : Exit → Act → World → Prop} (w : World) (hgd : o.guard = none) (sl x : Operand)
    (ho : o.op = .call { callee := .builtin .append, args := #[sl, x], argTypes := #[22, 9] })
    (q n c : Nat) (xs : List Int) (hn : xs.length = n) (hs : a.eval sl = .slice (some ⟨q, 0, none⟩) n c) (hown : OwnX w q c xs) (s : ByteArray) (hx : a.eval x = .string s) (hb : xs.length + s.size ≤ 70368744177664)
    (h : ∀ (q2 c2 : Nat) (w2 : World) (L : Nat), Hid (L = (xs ++ bytesOf s).length) → Hid (q2 = q ∨ q2 = w.heap.size) → Hid (OwnX w2 q2 c2 (xs ++ bytesOf s)) → Hid (Turned w w2 q) → wpList Try.prog ops K rest (a.put o.dst (.slice (some ⟨q2, 0, none⟩) L c2)) w2) :
    wpList Try.prog ops K (o :: rest) a w := by
  subst hn
  refine wpList_plain hgd fun K hK => ?_
  obtain ⟨q2, c2, w2, hr, h1, h2, h3⟩ := run_append_x w o.type q c xs hown s hb
  unfold Oper.wp execOp
  simp only [ho, resolve, invoke, builtin, Sem.run_bind, Sem.run_pure, Result.andThen_ok, List.map_toArray, List.map_cons, List.map_nil, hs, hx, hr]
  exact hK _ _ (h q2 c2 w2 _ (Lib.hid (by rw [List.length_append, bytesOf_length])) (Lib.hid h1) (Lib.hid h2) (Lib.hid h3))

theorem print (w0 W : World) (g : Nat) (na mw : Bool) (ind : Int) (xs : List Int) (s : ByteArray) (h : Q w0 W g na mw ind xs) (hb : xs.length + s.size ≤ 70368744177664) :
    Calls Try.prog 22 #[.pointer (some ⟨g, 0, none⟩), .string s] W (Done w0 g na mw ind (xs ++ bytesOf s)) := by
  obtain ⟨cs, q, c, h1, h2, h3, h4, h5, h6, h7, h8, h9, h10⟩ := h.ex
  have hc : W.cell? ⟨g, 9, none⟩ = some (.slice (some ⟨q, 0, none⟩) xs.length c) := (h1.cell 9).trans h2
  have H1 := Lib.hid h1
  have H8 := Lib.hid h8
  have H := Lib.hid h
  have H2 := Lib.hid h2
  have HR := Lib.hid (And.intro h3 (And.intro h4 (And.intro h5 (And.intro h6 h7))))
  have H9 := Lib.hid h9
  have H10 := Lib.hid h10
  have HBB := Lib.hid hb
  clear h h1 h2 h3 h4 h5 h6 h7 h8 h9 h10 hb
  generalize hn : xs.length = n at *
  have HN := Lib.hid hn
  clear hn
  go_enter Try.func22, Try.ntmps22
  go_wp2_with (at_builtin; refine wp_append_x _ rfl _ _ rfl q n c xs HN.out rfl H8.out s rfl ?hb ?_)
  case hb => rw [HN.out]; exact HBB.out
  intro q2 c2 w2 L HL HQ HO HT
  have HG : Hid (Blk w2 g 86 cs) := Lib.hid ((HT.out.block g H1.out.lt (fun e => H10.out e.symm)).trans H1.out)
  have hc2 : w2.cell? ⟨g, 9, none⟩ = some (.slice (some ⟨q, 0, none⟩) n c) := (HG.out.cell 9).trans H2.out
  have hf2 := HG.out.free 9
  clear hc
  go_wp2
  go_end0
  have hl : L = (xs ++ bytesOf s).length := by rw [List.length_append]; exact HL.out
  have hlt : 9 < cs.length := (List.getElem?_eq_some_iff.1 H2.out).1
  obtain ⟨r3, r4, r5, r6, r7⟩ := HR.out
  have hne : q2 ≠ g := by
    rcases HQ.out with e | e
    · rw [e]; exact H10.out
    · have := H1.out.lt; omega
  refine ⟨rfl, ⟨⟨_, q2, c2, HG.out.set 9 (.slice (some ⟨q2, 0, none⟩) L c2), ?_, ?_, ?_, ?_, ?_, ?_, ?_, ?_, hne⟩, H.out.lg, ?_⟩⟩
  · rw [List.getElem?_set_self hlt, hl]
  · rw [List.getElem?_set_ne (by decide)]; exact r3
  · rw [List.getElem?_set_ne (by decide)]; exact r4
  · rw [List.getElem?_set_ne (by decide)]; exact r5
  · rw [List.getElem?_set_ne (by decide)]; exact r6
  · rw [List.getElem?_set_ne (by decide)]; exact r7
  · exact HO.out.same (Below.heap_setCell w2 ⟨g, 9, none⟩ _ q2 hne)
  · rcases HQ.out with e | e
    · rw [e]; exact H9.out
    · have := H.out.be.size; omega
  · have hb := H.out.be
    have t := HT.out
    have l9 := H9.out
    have lg := H.out.lg
    refine (⟨t.os.trans hb.os, t.tape.trans hb.tape, t.output.trans hb.output, Nat.le_trans hb.size t.size, fun k hk => ?_⟩ : Kept w0 w2).setCell lg _
    exact (t.block k (Nat.lt_of_lt_of_le hk hb.size) (by omega)).trans (hb.block k hk)

theorem space (w0 W : World) (g : Nat) (na mw : Bool) (ind : Int) (xs : List Int) (h : Q w0 W g na mw ind xs) (hb : xs.length ≤ 1099511627776) :
    Calls Try.prog 27 #[.pointer (some ⟨g, 0, none⟩)] W (Done w0 g na mw ind (xs ++ if mw then [] else [32])) := by
  obtain ⟨cs, q, c, h1, h2, h3, h4, h5, h6, h7, _⟩ := h.ex
  have c28 : W.cell? ⟨g, 28, none⟩ = some (.bool mw) := (h1.cell 28).trans h6
  have H := Lib.hid h
  have HP := Lib.hid (print w0 W g na mw ind xs ⟨#[32]⟩ h (by show xs.length + 1 ≤ _; omega))
  clear h h1 h2 h3 h4 h5 h6 h7
  cases mw
  · go_enter Try.func27, Try.ntmps27
    go_wp2_with fail
    refine HP.out.mono ?_
    rintro e w' ⟨rfl, hq⟩
    have HQ := Lib.hid hq
    clear hq
    go_wp2_with fail
    go_end0
    exact ⟨rfl, HQ.out⟩
  · go_enter Try.func27, Try.ntmps27
    go_wp2_with fail
    go_end0
    refine ⟨rfl, ?_⟩
    simpa using H.out

theorem newline (w0 W : World) (g : Nat) (na mw : Bool) (ind : Int) (xs : List Int) (h : Q w0 W g na mw ind xs) (hb : xs.length ≤ 1099511627776) :
    Calls Try.prog 28 #[.pointer (some ⟨g, 0, none⟩)] W (Done w0 g na mw ind (xs ++ if mw then [] else [10])) := by
  obtain ⟨cs, q, c, h1, h2, h3, h4, h5, h6, h7, _⟩ := h.ex
  have c28 : W.cell? ⟨g, 28, none⟩ = some (.bool mw) := (h1.cell 28).trans h6
  have H := Lib.hid h
  have HP := Lib.hid (print w0 W g na mw ind xs ⟨#[10]⟩ h (by show xs.length + 1 ≤ _; omega))
  clear h h1 h2 h3 h4 h5 h6 h7
  cases mw
  · go_enter Try.func28, Try.ntmps28
    go_wp2_with fail
    refine HP.out.mono ?_
    rintro e w' ⟨rfl, hq⟩
    have HQ := Lib.hid hq
    clear hq
    go_wp2_with fail
    go_end0
    exact ⟨rfl, HQ.out⟩
  · go_enter Try.func28, Try.ntmps28
    go_wp2_with fail
    go_end0
    refine ⟨rfl, ?_⟩
    simpa using H.out

/-- m indents -/
def spc (m : Nat) : List Int := List.replicate (2 * m) 32
theorem spc_succ (m : Nat) : spc m ++ [32, 32] = spc (m + 1) := by
  unfold spc
  rw [show 2 * (m + 1) = 2 * m + 2 by omega, ← List.replicate_append_replicate]
  rfl
def Ci (w0 : World) (g : Nat) (na : Bool) (ind : Int) (m : Nat) (xs : List Int) (t : Value) (W : World) : Prop := ∃ k : Nat, k ≤ m ∧ t = .int .i64 (k : Int) ∧ Hid (Q w0 W g na false ind (xs ++ spc k))
set_option maxHeartbeats 2000000 in
theorem indent (w0 W : World) (g : Nat) (na mw : Bool) (m : Nat) (xs : List Int) (h : Q w0 W g na mw (m : Int) xs) (hm : m ≤ 131072) (hb : xs.length ≤ 1099511627776) :
    Calls Try.prog 29 #[.pointer (some ⟨g, 0, none⟩)] W (Done w0 g na mw (m : Int) (xs ++ if mw then [] else spc m)) := by
  obtain ⟨cs, q, c, h1, h2, h3, h4, h5, h6, h7, _⟩ := h.ex
  have c25 : W.cell? ⟨g, 25, none⟩ = some (.int .i64 (m : Int)) := (h1.cell 25).trans h4
  have c26 : W.cell? ⟨g, 26, none⟩ = some (.int .i64 0) := (h1.cell 26).trans h5
  have c28 : W.cell? ⟨g, 28, none⟩ = some (.bool mw) := (h1.cell 28).trans h6
  have c59 : W.cell? ⟨g, 59, none⟩ = some (.bool false) := (h1.cell 59).trans h7
  have H := Lib.hid h
  clear h h1 h2 h3 h4 h5 h6 h7
  cases mw
  · go_enter Try.func29, Try.ntmps29
    go_wp2_with fail
    have HS : Hid (Ci w0 g na (m : Int) m xs (.int .i64 0) W) := Lib.hid ⟨0, Nat.zero_le _, rfl, Lib.hid (by simpa [spc] using H.out)⟩
    go_loopw [3] (fun t W => Ci w0 g na (m : Int) m xs t W) (fun t _ => m - (intOf t).toNat)
    case atStart => exact HS.out
    case round =>
      obtain ⟨k, hk, rfl, HB⟩ := hrel
      clear HS
      by_cases hkm : k < m
      · have hki : (k : Int) < (m : Int) := by omega
        have HP := Lib.hid (print w0 wr g na false (m : Int) (xs ++ spc k) ⟨#[32, 32]⟩ HB.out (by rw [List.length_append]; simp only [spc, List.length_replicate]; show _ + 2 ≤ _; omega))
        go_wp2_with fail
        refine HP.out.mono ?_
        rintro e w' ⟨rfl, hq⟩
        have HRR : Hid (Ci w0 g na (m : Int) m xs (.int .i64 ((k : Int) + 1)) w') := Lib.hid ⟨k + 1, by omega, by go_num, Lib.hid (by
          have e : xs ++ spc (k + 1) = (xs ++ spc k) ++ bytesOf ⟨#[32, 32]⟩ := by rw [List.append_assoc, ← spc_succ]; rfl
          rw [e]; exact hq)⟩
        clear hq HP
        go_wp2_with fail
        go_roundw
        case rel => first | exact HRR.out | ((repeat apply Exists.intro); exact ⟨HRR.out, rfl⟩)
        case measure => simp [intOf]; omega
      · obtain rfl : m = k := by omega
        go_wp2_with fail
        go_end0
        exact ⟨rfl, HB.out⟩
  · go_enter Try.func29, Try.ntmps29
    go_wp2_with fail
    go_end0
    refine ⟨rfl, ?_⟩
    simpa using H.out
end Go.Proofs.Ytdpljbhbnlcoaaa.dx
