/-
  The walk of FnSemicolonScriptAgreesAcrossModes: Any sequence of statements printed with printSemicolonIfNeeded before and printSemicolonAfterStatement behind each gives ';' LF after each without minifying and exactly one ';' when minifying, and no semicolon is left pending.
  Conditions: none beyond those of the given statement Rows.FnSemicolonScriptAgreesAcrossModesSaid.
-/
import Derived.Test.YtgoffcpchgepeaaRows
import Derived.WalkKit
import Derived.ProofKit
import Derived.OpenShut
import Derived.ShutString
import Derived.ChangeOld
import Derived.Below
import Derived.Test.YtgoffcpchgepeaaScript2
import Derived.Test.YtgoffcpchgepeaaCloneI
import Derived.Test.YtgoffcpchgepeaaEqb265
import Derived.Lib.Strings
namespace Go.Proofs.Ytgoffcpchgepeaa.fnSemicolonScriptAgreesAcrossModes
open Go.ChangeShapes Go.WideShapes Go.ChangeAt Go.RowKit
open Go.ChangeMaps (open_string shut_string)
set_option linter.unusedVariables false


/-- WHAT THE WALK IS TOLD OF A SLICE OF INTEGERS THAT CAME IN: it is nil; or it leads to a row of 'cap' cells, the numbers 'zs' (the first 'len' are its elements, the rest its spare room), each fitting its kind. -/
def IsRow (k : IntKind) (w : World) (a : Option Addr) (len cap : Nat) (zs : List Int) : Prop :=
  (a = none ∧ len = 0 ∧ cap = 0 ∧ zs = []) ∨
  ∃ x, a = some x ∧ len ≤ cap ∧ cap ≤ maxLen ∧ zs.length = cap ∧ (∀ i, i < zs.length → w.cell? (x.add i) = some (.int k (zs.getD i 0))) ∧ ∀ n ∈ zs, (Lit.int k n).wf = true

open kit pr semi script
theorem bytes (s : ByteArray) (A : Option Addr) (n cap : Nat) (w : World) (hm : s.size ≤ maxLen) (hn : n ≤ maxLen) :
    Calls Try.prog 55 #[.string s, .slice A n cap] w fun e w' => (∃ b, e = .returned (.bool b)) ∧ w = w' := by
  unfold maxLen at hm hn
  by_cases h1 : 1048576 < s.size
  · go_enter Try.func55, Try.ntmps55
    go_wp2
    go_ret
    exact ⟨⟨_, rfl⟩, rfl⟩
  by_cases h2 : 1048576 < n
  · go_enter Try.func55, Try.ntmps55
    go_wp2
    go_ret
    exact ⟨⟨_, rfl⟩, rfl⟩
  by_cases h3 : 1048576 < s.size + n
  · go_enter Try.func55, Try.ntmps55
    go_wp2
    go_ret
    exact ⟨⟨_, rfl⟩, rfl⟩
  go_enter Try.func55, Try.ntmps55
  go_wp2
  go_ret
  exact ⟨⟨_, rfl⟩, rfl⟩
theorem js265 (w : World) (g : Nat) (cs : List Value) (a : Option Addr) (c : Nat) (xs : List Int) (h : Pr w g cs a c xs) :
    Calls Try.prog 38 #[.pointer (some ⟨g, 0, none⟩)] w fun e w' => e = .returned (.slice a xs.length c) ∧ w = w' := by
  have hc : w.cell? ⟨g, 9, none⟩ = some (.slice a xs.length c) := h.jcell
  clear h
  generalize xs.length = n at *
  go_enter Try.func38, Try.ntmps38
  go_wp2
  go_ret
  exact ⟨rfl, rfl⟩
theorem sp_kept {w w2 : World} {g : Nat} {a : Option Addr} {xs : List Int} {mw b : Bool} (h : Sp w g a xs mw b) (hk : Kept w w2) : Sp w2 g a xs mw b := by
  obtain ⟨cs, c, hp, h1, h2⟩ := h.ex
  exact ⟨cs, c, hp.kept hk, h1, h2⟩
theorem slice9 (s : ByteArray) (d c : Nat) (h : d ≤ c) (h2 : c ≤ s.size) (w : World) : (Instr.slice 9 (.string s) (some (.int .i64 (d : Int))) (some (.int .i64 (c : Int))) none).run Try.prog w = .ok (.string (s.extract d c)) w := by
  have := run_slice_string (P := Try.prog) w 9 s .i64 .i64 (d : Int) (c : Int) Try.underlying9 (by omega) (by omega) (by omega)
  rw [Int.toNat_natCast, Int.toNat_natCast] at this
  exact this

theorem step_any {w w2 : World} {a a2 : Option Addr} (h : Step w w2 w.heap.size a a2) (g : Nat) : Step w w2 g a a2 :=
  ⟨h.os, h.tape, h.output, h.size, fun k hk _ hka => h.block k hk (Nat.ne_of_lt hk) hka, h.row⟩
/-- the two laws of append, the new content under a name of its own -/
theorem wp_append_stringL {ops : Array Oper} {rest : List Oper} {o : Oper} {a : Act} {Q : Exit → Act → World → Prop} (w : World) (hgd : o.guard = none) (sl x : Operand)
    (ho : o.op = .call { callee := .builtin .append, args := #[sl, x], argTypes := #[22, 9] })
    (A : Option Addr) (c : Nat) (xs : List Int) (hs : a.eval sl = .slice A xs.length c) (hown : OwnB w A c xs) (s : ByteArray) (hx : a.eval x = .string s) (hb : xs.length + s.size ≤ 70368744177664)
    (h : ∀ A2 c2 w2 L, Hid (OwnB w2 A2 c2 L ∧ L = xs ++ bytesOf s) → Hid (∀ g, Step w w2 g A A2) → wpList Try.prog ops Q rest (a.put o.dst (.slice A2 L.length c2)) w2) :
    wpList Try.prog ops Q (o :: rest) a w :=
  wp_append_string w hgd sl x ho A c xs hs hown s hx hb (fun A2 c2 w2 h1 h2 => h A2 c2 w2 _ (Lib.hid ⟨h1, rfl⟩) (Lib.hid (step_any h2)))
theorem wp_append_rowL {ops : Array Oper} {rest : List Oper} {o : Oper} {a : Act} {Q : Exit → Act → World → Prop} (w : World) (hgd : o.guard = none) (sl x : Operand)
    (ho : o.op = .call { callee := .builtin .append, args := #[sl, x], argTypes := #[22, 22] })
    (A : Option Addr) (c : Nat) (xs : List Int) (hs : a.eval sl = .slice A xs.length c) (hown : OwnB w A c xs) (ad : Addr) (m d : Nat) (ys : List Int) (hx : a.eval x = .slice (some ad) m d) (hm : ys.length = m) (h0 : 0 < m)
    (hcell : ∀ j u, (ys.map (Value.int .u8))[j]? = some u → w.cell? (ad.add j) = some u) (hb : xs.length + m ≤ 70368744177664)
    (h : ∀ A2 c2 w2 L, Hid (OwnB w2 A2 c2 L ∧ L = xs ++ ys) → Hid (∀ g, Step w w2 g A A2) → wpList Try.prog ops Q rest (a.put o.dst (.slice A2 L.length c2)) w2) :
    wpList Try.prog ops Q (o :: rest) a w :=
  wp_append_row w hgd sl x ho A c xs hs hown ad m d ys hx hm h0 hcell hb (fun A2 c2 w2 _ h1 h2 => h A2 c2 w2 _ (Lib.hid ⟨h1, rfl⟩) (Lib.hid (step_any h2)))
theorem cells_new (w : World) (t : TypeId) (ys : List Int) : ∀ j u, (ys.map (Value.int .u8))[j]? = some u → (w.alloc (.cells (ys.map (Value.int .u8)).toArray t)).cell? (Addr.add ⟨w.heap.size, 0, none⟩ j) = some u := by
  intro j u hu
  have e : (⟨w.heap.size, 0, none⟩ : Addr).add j = ⟨w.heap.size, j, none⟩ := by
    unfold Addr.add
    by_cases h : j = 0 <;> simp [h]
  rw [e, (Blk.new w t _).cell, hu]

/-- what holds at the head of each round -/
def Inv (w1 : World) (g1 g2 n : Nat) (s : ByteArray) (t7 t8 t9 t10 : Value) (wr : World) : Prop :=
  ∃ (k d : Nat) (X : List Int) (bx : Bool) (m7 : Option Addr) (c7 : Nat) (M : List Int) (m8 : Option Addr) (c8 : Nat) (W : List Int), k ≤ n ∧ d ≤ s.size ∧ t7 = .slice m7 M.length c7 ∧ t8 = .slice m8 W.length c8 ∧ t9 = .int .i64 (d : Int) ∧ t10 = .int .i64 (k : Int) ∧
    St w1.heap.size g1 g2 wr X bx W m7 c7 M m8 c8 W ∧ semiOut bx X = M ∧ X.length ≤ M.length ∧ M.length ≤ d + k ∧ W.length ≤ d + 2 * k ∧ Kept w1 wr

theorem Inv.next {w1 wr wz : World} {g1 g2 n k d e : Nat} {s ex : ByteArray} {M W M2 W2 : List Int} {m7 m8 : Option Addr} {c7 c8 : Nat} (hk : k < n) (he : e ≤ s.size) (hex : ex.size + d = e) (hml : M.length ≤ d + k) (hwl : W.length ≤ d + 2 * k) (hK : Kept w1 wr)
    (hst : St w1.heap.size g1 g2 wz (M ++ bytesOf ex) true (W ++ bytesOf ex ++ [59, 10]) m7 c7 M2 m8 c8 W2) (hb : Below w1.heap.size wr wz) (hM2 : M2 = M ++ bytesOf ex ++ [59]) (hW2 : W2 = W ++ bytesOf ex ++ [59, 10]) :
    Inv w1 g1 g2 n s (.slice m7 M2.length c7) (.slice m8 W2.length c8) (.int .i64 (e : Int)) (.int .i64 ((k : Int) + 1)) wz := by
  have l1 : M2.length = M.length + ex.size + 1 := by rw [hM2]; simp [bytesOf_length]; omega
  have l2 : W2.length = W.length + ex.size + 2 := by rw [hW2]; simp [bytesOf_length]; omega
  refine ⟨k + 1, e, M ++ bytesOf ex, true, m7, c7, M2, m8, c8, W2, by omega, he, rfl, rfl, rfl, by go_num, (by rw [← hW2] at hst; exact hst), hM2.symm, ?_, by omega, by omega, Below.trans hK hb⟩
  rw [hM2]; simp

set_option maxRecDepth 100000 in
set_option maxHeartbeats 8000000 in
theorem main (s : ByteArray) (A : Option Addr) (n cap : Nat) (xs : List Int) (w : World) (hr : Row w A n cap (xs.map (Value.int .i64))) (hs : s.size ≤ 65536) (hn : n ≤ 4096) :
    Calls Try.prog 11 #[.string s, .slice A n cap] w fun e w' => e = .returned (.bool true) ∧ Below w.heap.size w w' := by
  have hlen : xs.length = n := by simpa using hr.1
  have HR := Lib.hid hr
  have HL := Lib.hid hlen
  clear hr hlen
  go_enter Try.func11, Try.ntmps11
  go_wp2_with fail
  refine (bytes s A n cap w (by unfold maxLen; omega) (by unfold maxLen; omega)).mono ?_
  rintro e w' ⟨⟨b, rfl⟩, rfl⟩
  cases b
  · go_wp2
    go_ret
    exact ⟨rfl, Below.refl _ _⟩
  go_wp2_with fail
  refine (cloneI.run A n cap xs w HR.out (by omega)).mono ?_
  rintro e w1 ⟨r1, rfl, hown1, _, hk1⟩
  have O1 := Lib.hid hown1
  have K1 := Lib.hid hk1
  clear hown1 hk1
  go_wp2_with fail
  refine (line.new265 w1 none 0 [] true false 0 0 (World.ownsRow_nil _ _ _ _)).mono ?_
  rintro e w2 ⟨cs1, rfl, hp1, _, _, h28, _, _, h135, _, hk2⟩
  have P1 := Lib.hid hp1
  have A1 := Lib.hid h28
  have C1 := Lib.hid h135
  have K2 := Lib.hid hk2
  clear hp1 h28 h135 hk2
  go_wp2_with fail
  refine (line.new265 w2 none 0 [] false false 0 0 (World.ownsRow_nil _ _ _ _)).mono ?_
  rintro e w3 ⟨cs2, rfl, hp2, _, _, h28, _, _, h135, _, hk3⟩
  have hlt12 : w1.heap.size < w2.heap.size := P1.out.blk.lt
  have I0 : Inv w1 w1.heap.size w2.heap.size n s (.slice none 0 0) (.slice none 0 0) (.int .i64 0) (.int .i64 0) w3 := by
    refine ⟨0, 0, [], false, none, 0, [], none, 0, [], by omega, by omega, rfl, rfl, rfl, rfl, ?_, rfl, by simp, by simp, by simp, K2.out.trans hk3⟩
    exact ⟨(K2.out.trans hk3).size, Nat.le_refl _, by omega, by omega, World.ownsRow_nil _ _ _ _, World.ownsRow_nil _ _ _ _, (fun k hk => by cases hk), (fun k hk => by cases hk), Sep.none_left _,
      none, none, ⟨cs1, 0, P1.out.kept hk3, A1.out, C1.out⟩, ⟨cs2, 0, hp2, h28, h135⟩, (fun k hk => by cases hk), (fun k hk => by cases hk), Sep.none_left _, Sep.none_left _, Sep.none_left _, Sep.none_left _, Sep.none_left _⟩
  have HI := Lib.hid I0
  clear I0 hp2 h28 h135 hk3 P1 A1 C1
  generalize hG1 : w1.heap.size = g1 at *
  generalize hG2 : w2.heap.size = g2 at *
  have HG1 := Lib.hid hG1
  clear hG1 hG2 hlt12
  go_wp2
  go_loopw [7, 8, 9, 10] (fun t7 t8 t9 t10 wr => Inv w1 g1 g2 n s t7 t8 t9 t10 wr) (fun _ _ _ t _ => n - (intOf t).toNat)
  case atStart => exact HI.out
  case round =>
    obtain ⟨k, d, X, bx, m7, c7, M, m8, c8, W, hk, hd, rfl, rfl, rfl, rfl, hst, hxm, hxl, hml, hwl, hkw⟩ := hrel
    have HXM := Lib.hid hxm
    have HK := Lib.hid hkw
    clear hxm hkw
    by_cases hlt : k < n
    · obtain ⟨b, off, hA, hbl, hcell⟩ := (Row.of_own O1.out).2.2.2.2 (by omega)
      have hkx : k < xs.length := by rw [HL.out]; exact hlt
      subst hA
      have hck : wr.cell? ⟨b, off + k, none⟩ = some (.int .i64 (xs.getD k 0)) := by
        have := HK.out.cell (hcell k (by simpa using hkx))
        rw [this]; simp [hkx]
      clear hcell hbl
      generalize xs.getD k 0 = x at *
      have hcase : ∃ e : Nat, d ≤ e ∧ e ≤ s.size ∧ ((x < (d : Int) ∧ d = e) ∨ (¬ x < (d : Int) ∧ (s.size : Int) < x ∧ e = s.size) ∨ (¬ x < (d : Int) ∧ ¬ (s.size : Int) < x ∧ x = (e : Int))) := by
        by_cases q1 : x < (d : Int)
        · exact ⟨d, Nat.le_refl _, hd, .inl ⟨q1, rfl⟩⟩
        · by_cases q2 : (s.size : Int) < x
          · exact ⟨s.size, hd, Nat.le_refl _, .inr (.inl ⟨q1, q2, rfl⟩)⟩
          · exact ⟨x.toNat, by omega, by omega, .inr (.inr ⟨q1, q2, by omega⟩)⟩
      obtain ⟨e, he1, he2, hcs⟩ := hcase
      have hsl := slice9 s d e he1 he2
      have hsz : (s.extract d e).size = e - d := by rw [ByteArray.size_extract]; omega
      have hxe : (s.extract d e).size + d = e := by omega
      clear hsz
      generalize s.extract d e = ex at *
      rcases hcs with ⟨q1, rfl⟩ | ⟨q1, q2, rfl⟩ | ⟨q1, q2, rfl⟩
      all_goals
        have HSL := Lib.hid hst
        clear hst
        go_wp2_with fail
        refine (HSL.out.pm (fun a0 p0 => zzIfNeeded wr g1 a0 X true bx p0 (by omega))).mono ?_
        rintro e0 wa ⟨rfl, hst, hb⟩
        rw [HXM.out] at hst
        have S1 := Lib.hid hst
        have B1 := Lib.hid hb
        clear hst hb
        go_wp2_with fail
        refine (S1.out.pm (fun a0 p0 => zzPrintSp wa g1 a0 M true false ex p0 (by omega))).mono ?_
        rintro e0 wb ⟨rfl, hst, hb⟩
        have S2 := Lib.hid hst
        have B2 := Lib.hid (Below.trans B1.out hb)
        clear hst hb
        go_wp2_with fail
        refine (S2.out.pm (fun a0 p0 => zzAfterStmt wb g1 a0 _ true p0 (by rw [List.length_append, bytesOf_length]; omega))).mono ?_
        rintro e0 wc ⟨rfl, hst, hb⟩
        have S3 := Lib.hid hst
        have B3 := Lib.hid (Below.trans B2.out hb)
        clear hst hb
        go_wp2_with fail
        refine (S3.out.pw (fun a0 p0 => zzIfNeeded wc g2 a0 W false false p0 (by omega))).mono ?_
        rintro e0 wd ⟨rfl, hst, hb⟩
        have S4 := Lib.hid hst
        have B4 := Lib.hid (Below.trans B3.out hb)
        clear hst hb
        go_wp2_with fail
        refine (S4.out.pw (fun a0 p0 => zzPrintSp wd g2 a0 _ false false ex p0 (by show W.length + _ ≤ _; omega))).mono ?_
        rintro e0 we ⟨rfl, hst, hb⟩
        have S5 := Lib.hid hst
        have B5 := Lib.hid (Below.trans B4.out hb)
        clear hst hb
        go_wp2_with fail
        refine (S5.out.pw (fun a0 p0 => zzAfterStmt we g2 a0 _ false p0 (by show (W ++ _).length ≤ _; rw [List.length_append, bytesOf_length]; omega))).mono ?_
        rintro e0 wf ⟨rfl, hst, hb⟩
        have S6 := Lib.hid hst
        have B6 := Lib.hid (Below.trans B5.out hb)
        clear hst hb
        have hexd : ex.size ≤ 65536 := by omega
        go_wp2_with (at_builtin; refine wp_append_stringL _ rfl _ _ rfl m7 c7 M rfl S6.out.o7 ex rfl (by omega) ?_)
        intro m7a c7a wg M7 ho hs
        have S7 := Lib.hid (S6.out.row7 ho.out.1 (hs.out _)).1
        have B7 := Lib.hid (Below.trans B6.out (S6.out.row7 ho.out.1 (hs.out _)).2)
        have M7E := Lib.hid ho.out.2
        have M7L : M7.length ≤ M.length + 65536 := by rw [M7E.out, List.length_append, bytesOf_length]; omega
        clear ho hs
        have KK := Lib.hid (S7.out.kept ((Kept.refl wg).alloc (.cells #[.int .u8 59] 5)))
        go_wp2_with (at_builtin; refine wp_append_rowL _ rfl _ _ rfl m7a c7a M7 rfl KK.out.o7 ⟨wg.heap.size, 0, none⟩ 1 1 [59] rfl rfl (by decide) (cells_new wg 5 [59]) (by omega) ?_)
        intro m7b c7b wh M8 ho hs
        have S8 := Lib.hid (KK.out.row7 ho.out.1 (hs.out _)).1
        have B8 := Lib.hid (Below.trans (Below.alloc B7.out S7.out.hB _) (KK.out.row7 ho.out.1 (hs.out _)).2)
        have M8E := Lib.hid ho.out.2
        clear ho hs KK
        go_wp2_with (at_builtin; refine wp_append_stringL _ rfl _ _ rfl m8 c8 W rfl S8.out.o8 ex rfl (by omega) ?_)
        intro m8a c8a wi W7 ho hs
        have S9 := Lib.hid (S8.out.row8 ho.out.1 (hs.out _)).1
        have B9 := Lib.hid (Below.trans B8.out (S8.out.row8 ho.out.1 (hs.out _)).2)
        have W7E := Lib.hid ho.out.2
        have W7L : W7.length ≤ W.length + 65536 := by rw [W7E.out, List.length_append, bytesOf_length]; omega
        clear ho hs
        have KK := Lib.hid (S9.out.kept ((Kept.refl wi).alloc (.cells #[.int .u8 59, .int .u8 10] 5)))
        go_wp2_with (at_builtin; refine wp_append_rowL _ rfl _ _ rfl m8a c8a W7 rfl KK.out.o8 ⟨wi.heap.size, 0, none⟩ 2 2 [59, 10] rfl rfl (by decide) (cells_new wi 5 [59, 10]) (by omega) ?_)
        intro m8b c8b wj W8 ho hs
        have SA := Lib.hid (KK.out.row8 ho.out.1 (hs.out _)).1
        have BA := Lib.hid (Below.trans (Below.alloc B9.out S9.out.hB _) (KK.out.row8 ho.out.1 (hs.out _)).2)
        have W8E := Lib.hid ho.out.2
        clear ho hs KK
        have HRR := Lib.hid (Inv.next (M := M) (W := W) hlt he2 hxe hml hwl HK.out SA.out BA.out (by rw [M8E.out, M7E.out]) (by rw [W8E.out, W7E.out]))
        go_wp2_with fail
        go_roundw
        case rel => first | exact HRR.out | ((repeat apply Exists.intro); exact ⟨HRR.out, rfl⟩)
        case measure => simp [intOf]; omega
    · obtain rfl : n = k := by omega
      have HSL := Lib.hid hst
      clear hst
      obtain ⟨wo, hwo⟩ : ∃ wo : World, wo = wr := ⟨_, rfl⟩
      subst hwo
      go_wp2_with fail
      refine (HSL.out.pm (fun a0 p0 => zzIfNeeded wo g1 a0 X true bx p0 (by omega))).mono ?_
      rintro e0 wa ⟨rfl, hst, hb⟩
      rw [HXM.out] at hst
      have S1 := Lib.hid hst
      have B1 := Lib.hid hb
      clear hst hb
      go_wp2_with fail
      refine (S1.out.pw (fun a0 p0 => zzIfNeeded wa g2 a0 W false false p0 (by omega))).mono ?_
      rintro e0 wb ⟨rfl, hst, hb⟩
      have hst2 : St w1.heap.size g1 g2 wb M false W m7 c7 M m8 c8 W := hst
      obtain ⟨a1, a2, p1, p2, _⟩ := hst2.ex
      obtain ⟨x1, y1, z1, _⟩ := p1.ex
      obtain ⟨x2, y2, z2, _⟩ := p2.ex
      have R1 := Lib.hid (Row.of_own z1.own)
      have R2 := Lib.hid (Row.of_own z2.own)
      have R7 := Lib.hid (Row.of_own hst2.o7)
      have R8 := Lib.hid (Row.of_own hst2.o8)
      have Z1 := Lib.hid z1
      have Z2 := Lib.hid z2
      have P1 := Lib.hid p1
      have P2 := Lib.hid p2
      have B2 := Lib.hid (Below.trans B1.out hb)
      clear hst hst2 hb p1 p2 z1 z2
      have hsm := eqb265.sameB_self M
      have hsw := eqb265.sameB_self W
      go_wp2_with fail
      refine (js265 wb g1 x1 a1 y1 M Z1.out).mono ?_
      rintro e0 w' ⟨rfl, rfl⟩
      go_wp2_with fail
      refine (eqb265.run a1 M.length y1 M m7 M.length c7 M wb R1.out R7.out (by omega) (by omega)).mono ?_
      rintro e0 wc ⟨rfl, hkc⟩
      rw [hsm]
      have K3 := Lib.hid hkc
      clear hkc hsm
      go_wp2_with fail
      refine (js265 wc g2 x2 a2 y2 W (Z2.out.kept K3.out)).mono ?_
      rintro e0 w' ⟨rfl, rfl⟩
      go_wp2_with fail
      refine (eqb265.run a2 W.length y2 W m8 W.length c8 W wc (R2.out.kept K3.out) (R8.out.kept K3.out) (by omega) (by omega)).mono ?_
      rintro e0 wd ⟨rfl, hkd⟩
      rw [hsw]
      have K4 := Lib.hid (K3.out.trans hkd)
      clear hkd hsw
      go_wp2_with fail
      refine (needs265 wd g1 a1 M true false (sp_kept P1.out K4.out)).mono ?_
      rintro e0 w' ⟨rfl, rfl⟩
      go_wp2_with fail
      refine (needs265 wd g2 a2 W false false (sp_kept P2.out K4.out)).mono ?_
      rintro e0 w' ⟨rfl, rfl⟩
      go_wp2_with fail
      go_ret
      exact ⟨rfl, Below.trans K1.out (Below.mono (Below.trans HK.out (Below.trans B2.out (Below.mono K4.out (Nat.le_trans HK.out.size B2.out.size)))) K1.out.size)⟩

theorem walk (a0 : ByteArray) (a1 : Option Addr) (len1 cap1 : Nat) (z1 : List Int) (w : World) (w0 : a0.size ≤ maxLen) (w1 : IsRow .i64 w a1 len1 cap1 z1) :
    Calls Try.prog 11 #[.string a0, .slice a1 len1 cap1] w fun e w' => e = .returned (.bool true) ∧ Below w.heap.size w w' := by
  have hrow : Row w a1 len1 cap1 ((z1.take len1).map (Value.int .i64)) := by
    rcases w1 with ⟨rfl, rfl, rfl, rfl⟩ | ⟨x, rfl, hl, hm, hz, hcell, hwz⟩
    · exact Row.nil w
    · exact Row.of_cells hl hm hz hcell
  have hml : len1 ≤ maxLen := Nat.le_trans hrow.2.1 hrow.2.2.1
  have HR := Lib.hid hrow
  clear w1 hrow
  by_cases c1 : 65536 < a0.size
  · have HB := Lib.hid (bytes a0 a1 len1 cap1 w w0 hml)
    unfold maxLen at w0 hml
    go_enter Try.func11, Try.ntmps11
    go_wp2_with fail
    refine HB.out.mono ?_
    rintro e w' ⟨⟨b, rfl⟩, rfl⟩
    cases b
    all_goals
      go_wp2
      go_ret
      exact ⟨rfl, Below.refl _ _⟩
  by_cases c2 : 4096 < len1
  · have HB := Lib.hid (bytes a0 a1 len1 cap1 w w0 hml)
    unfold maxLen at w0 hml
    go_enter Try.func11, Try.ntmps11
    go_wp2_with fail
    refine HB.out.mono ?_
    rintro e w' ⟨⟨b, rfl⟩, rfl⟩
    cases b
    all_goals
      go_wp2
      go_ret
      exact ⟨rfl, Below.refl _ _⟩
  exact main a0 a1 len1 cap1 _ w HR.out (by omega) (by omega)
end Go.Proofs.Ytgoffcpchgepeaa.fnSemicolonScriptAgreesAcrossModes
