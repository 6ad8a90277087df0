/-
  The bracket check of n011_220 over this seat's program.
  Conditions: the bytes hold no quotes and their brackets match.
-/
import Derived.Test.YtdpljbhbnlcoaaaDx6
import Derived.OwnWalk
namespace Go.Proofs.Ytdpljbhbnlcoaaa.dx
open Go.ChangeShapes Go.WideShapes Go.ChangeAt Go.RowKit
open kit pr

/-- one byte's turn of the stack of open brackets -/
def Stp (S : List Int) (c : Int) (S2 : List Int) : Prop :=
  ((c = 40 ∨ c = 91 ∨ c = 123) ∧ S2 = S ++ [c]) ∨
  (∃ o, S = S2 ++ [o] ∧ ((c = 41 ∧ o = 40) ∨ (c = 93 ∧ o = 91) ∨ (c = 125 ∧ o = 123))) ∨
  (S2 = S ∧ c ≠ 34 ∧ c ≠ 39 ∧ c ≠ 96 ∧ c ≠ 40 ∧ c ≠ 91 ∧ c ≠ 123 ∧ c ≠ 41 ∧ c ≠ 93 ∧ c ≠ 125)
def Bal (S : List Int) : List Int → List Int → Prop
  | [], S2 => S = S2
  | c :: r, S2 => ∃ S1, Stp S c S1 ∧ Bal S1 r S2
theorem own_pop {w : World} {q k N : Nat} {xs : List Value} {x : Value} (h : w.ownsRow q 5 1 (.slice (some ⟨q, 0, none⟩) (k + 1) N) (k + 1) (xs ++ [x])) : w.ownsRow q 5 1 (.slice (some ⟨q, 0, none⟩) k N) k xs := by
  have hl : xs.length = k := by have := h.1; simpa using this
  refine ⟨by simpa using hl, ?_⟩
  rcases h.2 with ⟨e, _⟩ | ⟨g, cap, cur, e, h1, h2, h3, h4, h5, h6⟩
  · cases e
  · injection e with e1 e2 e3
    injection e1 with e1
    injection e1 with e1
    subst e1 e3
    refine .inr ⟨q, N, cur, rfl, h1, h2, by omega, h4, h5, ?_⟩
    have h7 : cur.toList.take (k + 1) = xs ++ [x] := by simpa using h6
    have h8 : (cur.toList.take (k + 1)).take k = (xs ++ [x]).take k := by rw [h7]
    rw [List.take_take, Nat.min_eq_left (Nat.le_succ k), List.take_left' hl] at h8
    simpa using h8
theorem own_top {w : World} {q k N : Nat} {xs : List Value} {x : Value} (h : w.ownsRow q 5 1 (.slice (some ⟨q, 0, none⟩) (k + 1) N) (k + 1) (xs ++ [x])) : w.cell? ⟨q, k, none⟩ = some x := by
  have hl : xs.length = k := by have := h.1; simpa using this
  have h1 := h.cells (g := q) rfl k x (by rw [List.getElem?_append_right (by omega)]; simp [hl])
  rwa [Addr.add_lit, Nat.zero_add] at h1
theorem own_blt {w : World} {q n N : Nat} {xs : List Value} (h : w.ownsRow q 5 1 (.slice (some ⟨q, 0, none⟩) n N) n xs) : q < w.heap.size := (own_lt h q rfl).2
theorem oneNews (w : World) (v : Value) (t : TypeId) : ∀ j u, [v][j]? = some u → (w.alloc (.cells #[v] t)).cell? ((⟨w.heap.size, 0, none⟩ : Addr).add j) = some u := by
  intro j u h
  cases j with
  | zero =>
    have := (Blk.new w t [v]).cell 0
    have e : (⟨w.heap.size, 0, none⟩ : Addr).add 0 = ⟨w.heap.size, 0, none⟩ := by simp [Addr.add]
    rw [e, this]; exact h
  | succ j => simp at h
theorem one1 (x : Int) : ∀ u ∈ [Value.int .u8 x], u.oneCell' = true := by simp [Value.oneCell']
theorem keptGrown {w a b : World} {q : Nat} (h : Kept w a) (g : a.grownBy b (some q)) (hq : w.heap.size ≤ q) : Kept w b :=
  ⟨g.os.trans h.os, g.tape.trans h.tape, g.output.trans h.output, Nat.le_trans h.size g.size, fun k hk => (g.block k (Nat.lt_of_lt_of_le hk h.size) (fun e => by injection e with e; omega)).trans (h.block k hk)⟩
def Cb (w0 : World) (q n : Nat) (zs : List Int) (t3 t4 t5 : Value) (W : World) : Prop :=
  ∃ (i : Nat) (S : List Int) (K : Nat), i ≤ n ∧ K ≤ i ∧ t5 = .int .i64 (i : Int) ∧ t4 = .int .u8 0 ∧ t3 = .slice (some ⟨q, 0, none⟩) K n ∧ Hid (S.length = K ∧ Bal S (zs.drop i) [] ∧ W.ownsRow q 5 1 (.slice (some ⟨q, 0, none⟩) K n) K (S.map (Value.int .u8)) ∧ Kept w0 W)

set_option maxRecDepth 100000 in
set_option maxHeartbeats 16000000 in
theorem balC (b off c : Nat) (zs : List Int) (n : Nat) (w : World) (hn : zs.length = n) (h : ∀ j, j < n → w.cell? ⟨b, off + j, none⟩ = some (.int .u8 (zs.getD j 0))) (hz : Bal [] zs []) (hs : n ≤ 1048576) :
    Calls Try.prog 21 #[.slice (some ⟨b, off, none⟩) n c] w fun e w' => e = .returned (.bool true) ∧ Kept w w' := by
  obtain ⟨cur, hcur, hmk⟩ := make0 (T := 22) (E := 5) Try.underlying22 info5 n (n : Int) rfl (by omega) (by unfold maxLen; omega)
  obtain ⟨i0, hi, hz0, hz1, hz2⟩ := info_parts info5
  have HCUR := Lib.hid hcur
  have H := Lib.hid h
  have HZ := Lib.hid hz
  have HN := Lib.hid hn
  clear hcur h hz hn hz0 hz2
  go_enter Try.func21, Try.ntmps21
  go_wp2_with fail
  generalize hq : w.heap.size = q at *
  have HQ : Hid (w.heap.size ≤ q) := Lib.hid (by omega)
  have HS : Hid (Cb w q n zs (.slice (some ⟨q, 0, none⟩) 0 n) (.int .u8 0) (.int .i64 0) (w.alloc (.cells cur 5))) := Lib.hid ⟨0, [], 0, Nat.zero_le _, Nat.le_refl _, rfl, rfl, rfl, Lib.hid ⟨rfl, HZ.out, ⟨rfl, Or.inr ⟨q, n, cur, rfl, Nat.le_refl _, by rw [← hq]; exact heap_alloc_new w _, by omega, by unfold maxLen; omega, HCUR.out, by simp⟩⟩, (Kept.refl _).alloc _⟩⟩
  clear hq
  generalize w.alloc (.cells cur 5) = wa at *
  clear hmk HCUR HZ
  go_loopw [3, 4, 5] (fun t3 t4 t5 W => Cb w q n zs t3 t4 t5 W) (fun _ _ t5 _ => n - (intOf t5).toNat)
  case atStart => exact HS.out
  case round =>
    obtain ⟨i, S, K, hin, hKi, rfl, rfl, rfl, HB⟩ := hrel
    clear HS
    by_cases hlt : i < n
    · have hii : (i : Int) < (n : Int) := by omega
      have hd : zs.drop i = zs.getD i 0 :: zs.drop (i + 1) := by
        have hl := HN.out
        rw [List.drop_eq_getElem_cons (by omega)]
        congr 1
        simp [show i < zs.length by omega]
      have c1 := HB.out.2.2.2.cell (H.out i hlt)
      have hbal := HB.out.2.1
      rw [hd] at hbal
      obtain ⟨S1, hst, hbal1⟩ := hbal
      have HB1 := Lib.hid hbal1
      have HK := Lib.hid HB.out.1
      have HO := Lib.hid HB.out.2.2.1
      have HKK := Lib.hid HB.out.2.2.2
      have hqlt := own_blt HO.out
      clear hbal1 hd HB
      generalize zs.getD i 0 = x at *
      rcases hst with ⟨hx, rfl⟩ | ⟨o, rfl, hx⟩ | ⟨rfl, g1, g2, g3, g4, g5, g6, g7, g8, g9⟩
      · have hfit : K + 1 ≤ n := by omega
        have HRRf : Hid (∀ W : World, W.ownsRow q 5 1 (.slice (some ⟨q, 0, none⟩) (K + 1) n) (K + 1) (S.map (Value.int .u8) ++ [.int .u8 x]) → Kept w W → Cb w q n zs (.slice (some ⟨q, 0, none⟩) (K + 1) n) (.int .u8 0) (.int .i64 ((i : Int) + 1)) W) := Lib.hid (fun W ho hk => ⟨i + 1, S ++ [x], K + 1, by omega, by omega, by go_num, rfl, rfl, Lib.hid ⟨by simp [HK.out], HB1.out, by rw [List.map_append]; exact ho, hk⟩⟩)
        clear HB1
        rcases hx with rfl | rfl | rfl
        · go_wp2_with (at_builtin; refine wpList_append_fits _ rfl _ _ 22 rfl q 5 i0 1 Try.underlying22 hi hz1 q K n (S.map (Value.int .u8)) rfl (HO.out.alloc _) ⟨wr.heap.size, 0, none⟩ 1 1 [.int .u8 40] rfl rfl (oneNews wr _ 5) (one1 _) hfit ?_)
          intro w2 hown2 hgr2
          have HRR := Lib.hid (HRRf.out w2 hown2 (keptGrown (HKK.out.alloc _) hgr2 HQ.out))
          clear hown2 hgr2 HRRf
          go_wp2
          go_roundw
          case rel => first | exact HRR.out | ((repeat apply Exists.intro); exact ⟨HRR.out, rfl⟩)
          case measure => simp [intOf]; omega
        · go_wp2_with (at_builtin; refine wpList_append_fits _ rfl _ _ 22 rfl q 5 i0 1 Try.underlying22 hi hz1 q K n (S.map (Value.int .u8)) rfl (HO.out.alloc _) ⟨wr.heap.size, 0, none⟩ 1 1 [.int .u8 91] rfl rfl (oneNews wr _ 5) (one1 _) hfit ?_)
          intro w2 hown2 hgr2
          have HRR := Lib.hid (HRRf.out w2 hown2 (keptGrown (HKK.out.alloc _) hgr2 HQ.out))
          clear hown2 hgr2 HRRf
          go_wp2
          go_roundw
          case rel => first | exact HRR.out | ((repeat apply Exists.intro); exact ⟨HRR.out, rfl⟩)
          case measure => simp [intOf]; omega
        · go_wp2_with (at_builtin; refine wpList_append_fits _ rfl _ _ 22 rfl q 5 i0 1 Try.underlying22 hi hz1 q K n (S.map (Value.int .u8)) rfl (HO.out.alloc _) ⟨wr.heap.size, 0, none⟩ 1 1 [.int .u8 123] rfl rfl (oneNews wr _ 5) (one1 _) hfit ?_)
          intro w2 hown2 hgr2
          have HRR := Lib.hid (HRRf.out w2 hown2 (keptGrown (HKK.out.alloc _) hgr2 HQ.out))
          clear hown2 hgr2 HRRf
          go_wp2
          go_roundw
          case rel => first | exact HRR.out | ((repeat apply Exists.intro); exact ⟨HRR.out, rfl⟩)
          case measure => simp [intOf]; omega
      · obtain ⟨k, rfl⟩ : ∃ k, K = k + 1 := ⟨K - 1, by have := HK.out; simp at this; omega⟩
        have HO2 : Hid (wr.ownsRow q 5 1 (.slice (some ⟨q, 0, none⟩) (k + 1) n) (k + 1) (S1.map (Value.int .u8) ++ [.int .u8 o])) := Lib.hid (by have h := HO.out; rw [List.map_append] at h; exact h)
        have top := own_top HO2.out
        have hk0 : ((k : Int) + 1 == 0) = false := by simp; omega
        have ek : ((k + 1 : Nat) : Int) = (k : Int) + 1 := by omega
        have ek2 : (k : Int) + 1 - 1 = (k : Int) := by omega
        have HRR : Hid (Cb w q n zs (.slice (some ⟨q, 0, none⟩) k n) (.int .u8 0) (.int .i64 ((i : Int) + 1)) wr) := Lib.hid ⟨i + 1, S1, k, by omega, by omega, by go_num, rfl, rfl, Lib.hid ⟨by have := HK.out; simp at this; omega, HB1.out, own_pop HO2.out, HKK.out⟩⟩
        clear HB1 HO2 HO HK ek
        rcases hx with ⟨rfl, rfl⟩ | ⟨rfl, rfl⟩ | ⟨rfl, rfl⟩
        · go_wp2_with fail
          go_roundw
          case rel => first | exact HRR.out | ((repeat apply Exists.intro); exact ⟨HRR.out, rfl⟩)
          case measure => simp [intOf]; omega
        · go_wp2_with fail
          go_roundw
          case rel => first | exact HRR.out | ((repeat apply Exists.intro); exact ⟨HRR.out, rfl⟩)
          case measure => simp [intOf]; omega
        · go_wp2_with fail
          go_roundw
          case rel => first | exact HRR.out | ((repeat apply Exists.intro); exact ⟨HRR.out, rfl⟩)
          case measure => simp [intOf]; omega
      · have HRR : Hid (Cb w q n zs (.slice (some ⟨q, 0, none⟩) K n) (.int .u8 0) (.int .i64 ((i : Int) + 1)) wr) := Lib.hid ⟨i + 1, S1, K, by omega, by omega, by go_num, rfl, rfl, Lib.hid ⟨HK.out, HB1.out, HO.out, HKK.out⟩⟩
        have e1 : (x == 34) = false := by simpa using g1
        have e2 : (x == 39) = false := by simpa using g2
        have e3 : (x == 96) = false := by simpa using g3
        have e4 : (x == 40) = false := by simpa using g4
        have e5 : (x == 91) = false := by simpa using g5
        have e6 : (x == 123) = false := by simpa using g6
        have e7 : (x == 41) = false := by simpa using g7
        have e8 : (x == 93) = false := by simpa using g8
        have e9 : (x == 125) = false := by simpa using g9
        clear HB1 HO HK g1 g2 g3 g4 g5 g6 g7 g8 g9
        go_wp2_with fail
        go_roundw
        case rel => first | exact HRR.out | ((repeat apply Exists.intro); exact ⟨HRR.out, rfl⟩)
        case measure => simp [intOf]; omega
    · obtain rfl : n = i := by omega
      have hbal := HB.out.2.1
      rw [List.drop_of_length_le (by have := HN.out; omega)] at hbal
      have hS : S = [] := hbal
      have hK := HB.out.1
      rw [hS] at hK
      obtain rfl : K = 0 := hK.symm
      have HKK := Lib.hid HB.out.2.2.2
      clear HB hbal hS
      go_wp2_with fail
      go_ret
      exact ⟨rfl, HKK.out⟩
end Go.Proofs.Ytdpljbhbnlcoaaa.dx
