/-
  wrapRulesWithConditions over this seat's program: the nest of at-rules that it lays, no import record added.
  Conditions: the rules and the conditions are readable and within the law's bounds.
-/
import Derived.Test.YtimllpocefbcbaaWk
namespace Go.Proofs.Ytimllpocefbcbaa.wr
open Go.ChangeShapes Go.WideShapes Go.ChangeAt Go.RowKit
open kit

theorem top_zero {n : Nat} {l : List ByteArray} (h : top n l = 0) : n = 0 ∧ l = [] := by
  cases l with
  | nil => exact ⟨h, rfl⟩
  | cons s r => exact absurd h (by simp [top])
/-- one wrapper laid -/
theorem Ch.wrap {w w1 w2 : World} {n : Nat} {l : List ByteArray} {v pre : Value} (s : ByteArray) (h : Ch w n l v) (h1 : w1 = w.alloc (.cells #[.string s, pre, v, .int .i32 0] 64)) (h2 : w2 = w1.alloc (.cells #[.iface 62 (.pointer (some ⟨w.heap.size, 0, none⟩)), .int .i32 0] 45)) :
    Ch w2 n (s :: l) (.slice (some ⟨w.heap.size + 1, 0, none⟩) 1 1) ∧ Kept w w2 := by
  have e1 : w.heap.size + 1 = w1.heap.size := by rw [h1]; simp
  rw [e1]
  have k1 : Kept w w1 := by rw [h1]; exact (Kept.refl w).alloc _
  have k2 : Kept w1 w2 := by rw [h2]; exact (Kept.refl w1).alloc _
  have b1 : Blk w1 w.heap.size 64 [.string s, pre, v, .int .i32 0] := by rw [h1]; exact Blk.new w 64 [.string s, pre, v, .int .i32 0]
  have b2 : Blk w2 w1.heap.size 45 [.iface 62 (.pointer (some ⟨w.heap.size, 0, none⟩)), .int .i32 0] := by rw [h2]; exact Blk.new w1 45 [.iface 62 (.pointer (some ⟨w.heap.size, 0, none⟩)), .int .i32 0]
  have b3 := b1.kept k2
  exact ⟨⟨w1.heap.size, w.heap.size, pre, v, rfl, b2.lt, b2.cell 0, b2.cell 1, b3.cell 0, b3.cell 1, b3.cell 2, b3.cell 3, (h.kept k1).kept k2⟩, k1.trans k2⟩

def Wrapped (w : World) (n : Nat) (l : List ByteArray) (e : Ending) (w' : World) : Prop := (∃ v, e = .returned (.tuple #[v, .slice none 0 0]) ∧ Ch w' n l v) ∧ Kept w w'
def T11 (w : World) (n : Nat) (F : Cs) (t0 t1 t10 : Value) (W : World) : Prop := ∃ k : Nat, k ≤ F.length ∧ t1 = .slice none 0 0 ∧ t10 = .int .i64 ((k : Int) - 1) ∧ Ch W n (down n F k) t0 ∧ Kept w W
def TL (w : World) (n : Nat) (l : List ByteArray) (L : List Bool) (t0 t1 t33 : Value) (W : World) : Prop := ∃ j : Nat, j ≤ L.length ∧ t1 = .slice none 0 0 ∧ t33 = .int .i64 (j : Int) ∧ Ch W n (layers n l (L.take j)) t0 ∧ Kept w W
def TS (w : World) (n : Nat) (l : List ByteArray) (m : Nat) (t0 t1 t71 : Value) (W : World) : Prop := ∃ j : Nat, j ≤ m ∧ t1 = .slice none 0 0 ∧ t71 = .int .i64 (j : Int) ∧ Ch W n (sups n l j) t0 ∧ Kept w W
set_option maxRecDepth 100000 in
set_option maxHeartbeats 8000000 in
theorem wrap (w : World) (v : Value) (n : Nat) (ac : Option Addr) (cc : Nat) (F : Cs) (h : Ch w n [] v) (hc : ImpsC w (.slice ac F.length cc) F) (hn : n ≤ 65536) (hF : F.length ≤ 4096) (hfit : Fit F F.length) : Calls Try.prog 11 #[v, .slice none 0 0, .slice ac F.length cc, .slice none 0 0] w (Wrapped w n (down n F 0)) := by
  have HA0 : Hid (Ch w n (down n F F.length) v) := Lib.hid (by rw [down_end]; exact h)
  have HC := Lib.hid hc
  have HF := Lib.hid hfit
  obtain ⟨ac2, c2, e, hcc1, hcc2, _⟩ := Sl.len hc
  injection e with e1 e2 e3
  subst e1 e3
  clear e2
  clear h hc hfit
  go_enter Try.func11, Try.ntmps11
  go_wp2_with fail
  go_loopw [0, 1, 10] (fun t0 t1 t10 W => T11 w n F t0 t1 t10 W) (fun _ _ t10 _ => (intOf t10 + 1).toNat)
  case atStart => exact ⟨F.length, Nat.le_refl _, rfl, rfl, HA0.out, Kept.refl _⟩
  case round =>
    obtain ⟨k, hk, rfl, rfl, hch, hkw⟩ := hrel
    have HCH := Lib.hid hch
    have HK := Lib.hid hkw
    obtain ⟨w1, rfl⟩ : ∃ w1 : World, w1 = wr := ⟨_, rfl⟩
    clear hch hkw HA0
    rcases k with _ | k
    · obtain ⟨a0, c0, rfl, hb1, hb2⟩ := HCH.out.form
      go_wp2_with fail
      go_ret2
      exact ⟨⟨_, rfl, HCH.out⟩, HK.out⟩
    · rw [show (((k + 1 : Nat) : Int) - 1) = (k : Int) by omega]
      have hlt : k < F.length := by omega
      have k0 : (k : Int) < (F.length : Int) := by omega
      obtain ⟨b, off, ea, _, v1, v2, x0, x1, x2, s1, s2⟩ := (HC.out.kept HK.out).at_ hlt
      subst ea
      obtain ⟨f1, f2, f3⟩ := HF.out k hlt
      have HST := Lib.hid (down_step n F hlt)
      generalize hl0 : down n F (k + 1) = l0 at *
      have HL0 := Lib.hid hl0
      clear hl0
      obtain ⟨aL, cL, rfl, hL1, hL2, _⟩ := Sl.len s1
      obtain ⟨aS, cS, rfl, hS1, hS2, _⟩ := Sl.len s2
      have S1 := Lib.hid s1
      have S2 := Lib.hid s2
      clear s1 s2
      go_upto_region 5 with fail
      have KA := Lib.hid ((Kept.refl w1).alloc (.cells #[.slice none 0 0, .slice aL (at_ F k).L.length cL, .slice aS (at_ F k).s.toNat cS] 57))
      have HB2 : Hid (Blk (w1.alloc (.cells #[.slice none 0 0, .slice aL (at_ F k).L.length cL, .slice aS (at_ F k).s.toNat cS] 57)) w1.heap.size 57 [.slice none 0 0, .slice aL (at_ F k).L.length cL, .slice aS (at_ F k).s.toNat cS]) := Lib.hid (Blk.new w1 57 _)
      generalize w1.alloc (.cells #[.slice none 0 0, .slice aL (at_ F k).L.length cL, .slice aS (at_ F k).s.toNat cS] 57) = w2 at *
      generalize w1.heap.size = q at *
      have KW := Lib.hid (HK.out.trans KA.out)
      have HCH2 : Hid (Ch w2 n (layers n l0 ((at_ F k).L.take 0)) u0) := Lib.hid (HCH.out.kept KA.out)
      have S12 := Lib.hid (Sl.mono S1.out KA.out.size fun _ _ _ _ q => q.kept KA.out)
      have S22 := Lib.hid (Sl.mono S2.out KA.out.size fun _ _ _ _ q => q.kept KA.out)
      clear x0 x1 x2 S1 S2 KA HCH HK
      have y1 : w2.cell? ⟨q, 1, none⟩ = some (.slice aL (at_ F k).L.length cL) := HB2.out.cell 1
      generalize hc1 : at_ F k = cd at *
      have HCD := Lib.hid hc1
      clear hc1
      go_upto_region 6 with fail
      clear y1
      go_loopw [0, 1, 33] (fun t0 t1 t33 W => TL w2 n l0 cd.L t0 t1 t33 W) (fun _ _ t33 _ => cd.L.length - (intOf t33).toNat)
      case atStart => exact ⟨0, Nat.zero_le _, rfl, rfl, HCH2.out, Kept.refl _⟩
      case round =>
        obtain ⟨j, hj, rfl, rfl, hch, hkw⟩ := hrel
        have HCH3 := Lib.hid hch
        have K3 := Lib.hid hkw
        obtain ⟨w3, rfl⟩ : ∃ w3 : World, w3 = wr := ⟨_, rfl⟩
        clear hch hkw HCH2
        by_cases hlj : j < cd.L.length
        · have HLS := Lib.hid (layers_step n l0 cd.L hlj)
          generalize hl1 : layers n l0 (cd.L.take j) = l1 at *
          clear hl1
          have s12 := Sl.mono S12.out K3.out.size fun _ _ _ _ q => q.kept K3.out
          obtain ⟨b2, off2, e2, _, hop, x1, x2, x3, x4, x5, x6⟩ := Sl.at_ s12 hlj
          subst e2
          have j0 : (j : Int) < (cd.L.length : Int) := by omega
          obtain ⟨a0, c0, rfl, hb1, hb2⟩ := HCH3.out.form
          rcases hop with ⟨hop, x0⟩ | ⟨hop, p, ap, cp, x0, xp, hcp⟩
          · rw [hop] at HLS
            go_upto_region 8 with fail
            have KB := Lib.hid ((Kept.refl w3).alloc (.cells #[.pointer none, .string ⟨#[]⟩, .int .i32 0, .int .u32 0, .int .u16 0, .int .u8 0, .int .u8 0] 54))
            have HB4 : Hid (Blk (w3.alloc (.cells #[.pointer none, .string ⟨#[]⟩, .int .i32 0, .int .u32 0, .int .u16 0, .int .u8 0, .int .u8 0] 54)) w3.heap.size 54 [.pointer none, .string ⟨#[]⟩, .int .i32 0, .int .u32 0, .int .u16 0, .int .u8 0, .int .u8 0]) := Lib.hid (Blk.new w3 54 _)
            generalize w3.alloc (.cells #[.pointer none, .string ⟨#[]⟩, .int .i32 0, .int .u32 0, .int .u16 0, .int .u8 0, .int .u8 0] 54) = w4 at *
            generalize w3.heap.size = r at *
            have HCH4 := Lib.hid (HCH3.out.kept KB.out)
            have K4 := Lib.hid (K3.out.trans KB.out)
            have z0 : w4.cell? ⟨r, 0, none⟩ = some (.pointer none) := HB4.out.cell 0
            by_cases ht : top n l1 = 0
            · have HE : Hid (stepL n l1 false = l1) := Lib.hid (by unfold stepL; rw [if_pos ⟨ht, rfl⟩])
              rw [ht] at hb1 HCH4 ⊢
              clear ht
              go_wp2_with fail
              go_roundw
              case rel => exact ⟨j + 1, by omega, rfl, by go_num, (by rw [HLS.out, HE.out]; exact HCH4.out), K4.out⟩
              case measure => simp [intOf]; omega
            · have HE : Hid (stepL n l1 false = lyr :: l1) := Lib.hid (by unfold stepL; rw [if_neg (fun h => ht h.1)])
              generalize top n l1 = tp at *
              have ht2 : ((tp : Int) == 0) = false := by simp; omega
              go_wp2_with fail
              refine (clone0 w4 none 0 (.slice none 0 0) (by omega)).mono ?_
              rintro e w5 ⟨⟨pa, pn, pc, rfl⟩, k5⟩
              have HCH5 := Lib.hid (HCH4.out.kept k5)
              have K5 := Lib.hid (K4.out.trans k5)
              clear k5 z0
              go_wp2_with fail
              exact ⟨⟨j + 1, by omega, rfl, by go_num, (by rw [HLS.out, HE.out]; exact (Ch.wrap lyr HCH5.out rfl rfl).1), K5.out.trans (Ch.wrap lyr HCH5.out rfl rfl).2⟩, by simp [intOf]; omega⟩
          · rw [hop] at HLS
            go_upto_region 8 with fail
            have KB := Lib.hid ((Kept.refl w3).alloc (.cells #[.pointer (some ⟨p, 0, none⟩), .string ⟨#[]⟩, .int .i32 0, .int .u32 0, .int .u16 0, .int .u8 0, .int .u8 0] 54))
            have HB4 : Hid (Blk (w3.alloc (.cells #[.pointer (some ⟨p, 0, none⟩), .string ⟨#[]⟩, .int .i32 0, .int .u32 0, .int .u16 0, .int .u8 0, .int .u8 0] 54)) w3.heap.size 54 [.pointer (some ⟨p, 0, none⟩), .string ⟨#[]⟩, .int .i32 0, .int .u32 0, .int .u16 0, .int .u8 0, .int .u8 0]) := Lib.hid (Blk.new w3 54 _)
            generalize w3.alloc (.cells #[.pointer (some ⟨p, 0, none⟩), .string ⟨#[]⟩, .int .i32 0, .int .u32 0, .int .u16 0, .int .u8 0, .int .u8 0] 54) = w4 at *
            generalize w3.heap.size = r at *
            have HCH4 := Lib.hid (HCH3.out.kept KB.out)
            have K4 := Lib.hid (K3.out.trans KB.out)
            have z0 : w4.cell? ⟨r, 0, none⟩ = some (.pointer (some ⟨p, 0, none⟩)) := HB4.out.cell 0
            have zp := KB.out.cell xp
            by_cases ht : top n l1 = 0
            · obtain ⟨h1, h2⟩ := top_zero ht
              have HE : Hid (stepL n l1 true = lyr :: l1) := Lib.hid (by unfold stepL; rw [if_neg (fun h => by cases h.2)])
              have HN : Hid (∀ W, Ch W n l1 (.slice none 0 0)) := Lib.hid (fun W => by rw [h1, h2]; exact Ch.nil W)
              rw [ht] at hb1 HCH4 ⊢
              clear ht h1 h2
              go_wp2_with fail
              refine (clone0 w4 ap cp (.slice none 0 0) hcp).mono ?_
              rintro e w5 ⟨⟨pa, pn, pc, rfl⟩, k5⟩
              have HCH5 := Lib.hid (HN.out w5)
              have K5 := Lib.hid (K4.out.trans k5)
              clear k5 z0 zp
              go_wp2_with fail
              exact ⟨⟨j + 1, by omega, rfl, by go_num, (by rw [HLS.out, HE.out]; exact (Ch.wrap lyr HCH5.out rfl rfl).1), K5.out.trans (Ch.wrap lyr HCH5.out rfl rfl).2⟩, by simp [intOf]; omega⟩
            · have HE : Hid (stepL n l1 true = lyr :: l1) := Lib.hid (by unfold stepL; rw [if_neg (fun h => ht h.1)])
              generalize top n l1 = tp at *
              have ht2 : ((tp : Int) == 0) = false := by simp; omega
              go_wp2_with fail
              refine (clone0 w4 ap cp (.slice none 0 0) hcp).mono ?_
              rintro e w5 ⟨⟨pa, pn, pc, rfl⟩, k5⟩
              have HCH5 := Lib.hid (HCH4.out.kept k5)
              have K5 := Lib.hid (K4.out.trans k5)
              clear k5 z0 zp
              go_wp2_with fail
              exact ⟨⟨j + 1, by omega, rfl, by go_num, (by rw [HLS.out, HE.out]; exact (Ch.wrap lyr HCH5.out rfl rfl).1), K5.out.trans (Ch.wrap lyr HCH5.out rfl rfl).2⟩, by simp [intOf]; omega⟩
        · obtain rfl : j = cd.L.length := by omega
          have HCH5 : Hid (Ch w3 n (layers n l0 cd.L) u0) := Lib.hid (by have := HCH3.out; rwa [List.take_length] at this)
          have HC2 : Hid (down n F k = sups n (layers n l0 cd.L) cd.s.toNat) := Lib.hid (by rw [HST.out]; rfl)
          have KQ := Lib.hid (KW.out.trans K3.out)
          have HB5 := Lib.hid (HB2.out.kept K3.out)
          have s22 := Lib.hid (Sl.mono S22.out K3.out.size fun _ _ _ _ q => q.kept K3.out)
          clear HCH3 K3 S12 HST HB2 S22
          generalize layers n l0 cd.L = l2 at *
          generalize cd.s.toNat = m at *
          obtain ⟨a0, c0, rfl, hb1, hb2⟩ := HCH5.out.form
          have y0 : w3.cell? ⟨q, 0, none⟩ = some (.slice none 0 0) := HB5.out.cell 0
          have y2 : w3.cell? ⟨q, 2, none⟩ = some (.slice aS m cS) := HB5.out.cell 2
          by_cases ht : top n l2 = 0
          · have HE : Hid (down n F k = l2) := Lib.hid (by rw [HC2.out, sups_none ht])
            rw [ht] at hb1 HCH5 ⊢
            clear ht HC2
            go_wp2_with fail
            go_roundw
            case rel => exact ⟨k, by omega, rfl, by go_num, (by rw [HE.out]; exact HCH5.out), KQ.out⟩
            case measure => simp [intOf]
          · have HCN : Hid (∀ j, top n (sups n l2 j) ≠ 0) := Lib.hid (sups_some ht)
            generalize ht0 : top n l2 = tp at *
            have ht2 : decide (0 < tp) = true := by simp; omega
            clear ht0
            have HCH6 : Hid (Ch w3 n (sups n l2 0) (.slice a0 tp c0)) := HCH5
            go_upto_region 19 with fail
            clear y0 y2
            go_loopw [0, 1, 71] (fun t0 t1 t71 W => TS w3 n l2 m t0 t1 t71 W) (fun _ _ t71 _ => m - (intOf t71).toNat)
            case atStart => exact ⟨0, Nat.zero_le _, rfl, rfl, HCH6.out, Kept.refl _⟩
            case round =>
              obtain ⟨j, hj, rfl, rfl, hch, hkw⟩ := hrel
              have HCH7 := Lib.hid hch
              have K7 := Lib.hid hkw
              obtain ⟨w7, rfl⟩ : ∃ w7 : World, w7 = wr := ⟨_, rfl⟩
              have HTN : Hid (top n (sups n l2 j) ≠ 0) := Lib.hid (HCN.out j)
              have HSS : Hid (sups n l2 (j + 1) = sup :: sups n l2 j) := Lib.hid (by show stepS n (sups n l2 j) = _; unfold stepS; rw [if_neg HTN.out])
              clear hch hkw HCH6 HCH5
              by_cases hlj : j < m
              · clear HC2
                generalize sups n l2 j = l1 at *
                have s12 := Sl.mono s22.out K7.out.size fun _ _ _ _ q => q.kept K7.out
                obtain ⟨b2, off2, e2, _, x0, x1, x2, x3, x4, x5, x6⟩ := Sl.at_ s12 hlj
                subst e2
                have j0 : (j : Int) < (m : Int) := by omega
                obtain ⟨a1, c1, rfl, hb3, hb4⟩ := HCH7.out.form
                generalize top n l1 = tq at *
                clear s12
                go_upto_region 21 with fail
                have KB := Lib.hid ((Kept.refl w7).alloc (.cells #[.pointer none, .string ⟨#[]⟩, .int .i32 0, .int .u32 0, .int .u16 0, .int .u8 0, .int .u8 0] 54))
                have HB8 : Hid (Blk (w7.alloc (.cells #[.pointer none, .string ⟨#[]⟩, .int .i32 0, .int .u32 0, .int .u16 0, .int .u8 0, .int .u8 0] 54)) w7.heap.size 54 [.pointer none, .string ⟨#[]⟩, .int .i32 0, .int .u32 0, .int .u16 0, .int .u8 0, .int .u8 0]) := Lib.hid (Blk.new w7 54 _)
                generalize w7.alloc (.cells #[.pointer none, .string ⟨#[]⟩, .int .i32 0, .int .u32 0, .int .u16 0, .int .u8 0, .int .u8 0] 54) = w8 at *
                have HLE := Lib.hid (Nat.le_refl w7.heap.size)
                generalize hr : w7.heap.size = r at *
                have HR := Lib.hid hr
                clear hr HLE x0 x1 x2 x3 x4 x5 x6
                have z5 : w8.cell? ⟨r, 5, none⟩ = some (.int .u8 0) := HB8.out.cell 5
                have z5f := HB8.out.free 5
                have z1 : w8.cell? ⟨r, 1, none⟩ = some (.string ⟨#[]⟩) := HB8.out.cell 1
                have z1f := HB8.out.free 1
                go_upto_region 24 with fail
                clear z5 z5f z1 z1f
                have HB9 : Hid (Blk ((w8.setCell ⟨r, 5, none⟩ (.int .u8 33)).setCell ⟨r, 1, none⟩ (.string ⟨#[40]⟩)) r 54 [.pointer none, .string ⟨#[40]⟩, .int .i32 0, .int .u32 0, .int .u16 0, .int .u8 33, .int .u8 0]) := Lib.hid ((HB8.out.set 5 (.int .u8 33)).set 1 (.string ⟨#[40]⟩))
                have KC : Hid (Kept w7 ((w8.setCell ⟨r, 5, none⟩ (.int .u8 33)).setCell ⟨r, 1, none⟩ (.string ⟨#[40]⟩))) := Lib.hid ((KB.out.setCell (p := ⟨r, 5, none⟩) (by rw [HR.out]; exact Nat.le_refl _) _).setCell (p := ⟨r, 1, none⟩) (by rw [HR.out]; exact Nat.le_refl _) _)
                generalize (w8.setCell ⟨r, 5, none⟩ (.int .u8 33)).setCell ⟨r, 1, none⟩ (.string ⟨#[40]⟩) = w9 at *
                clear HB8 KB HR
                have y0 : w9.cell? ⟨r, 0, none⟩ = some (.pointer none) := HB9.out.cell 0
                have y1 : w9.cell? ⟨r, 1, none⟩ = some (.string ⟨#[40]⟩) := HB9.out.cell 1
                have y2 : w9.cell? ⟨r, 2, none⟩ = some (.int .i32 0) := HB9.out.cell 2
                have y3 : w9.cell? ⟨r, 3, none⟩ = some (.int .u32 0) := HB9.out.cell 3
                have y4 : w9.cell? ⟨r, 4, none⟩ = some (.int .u16 0) := HB9.out.cell 4
                have y5 : w9.cell? ⟨r, 5, none⟩ = some (.int .u8 33) := HB9.out.cell 5
                have y6 : w9.cell? ⟨r, 6, none⟩ = some (.int .u8 0) := HB9.out.cell 6
                have CL := Lib.hid (clone1 (w9.alloc (.cells #[.pointer none, .string ⟨#[40]⟩, .int .i32 0, .int .u32 0, .int .u16 0, .int .u8 33, .int .u8 0] 54)) w9.heap.size (.slice none 0 0) (by simp) (by
                  have b := Blk.new w9 54 [.pointer none, .string ⟨#[40]⟩, .int .i32 0, .int .u32 0, .int .u16 0, .int .u8 33, .int .u8 0]
                  exact ⟨b.cell 0, b.cell 1, b.cell 2, b.cell 3, b.cell 4, b.cell 5, b.cell 6⟩))
                go_wp2_with fail
                refine CL.out.mono ?_
                rintro e wa ⟨⟨pa, pn, pc, rfl⟩, ka⟩
                have HCHa := Lib.hid ((HCH7.out.kept KC.out).kept (((Kept.refl w9).alloc _).trans ka))
                have Ka := Lib.hid ((K7.out.trans KC.out).trans (((Kept.refl w9).alloc _).trans ka))
                clear CL ka y0 y1 y2 y3 y4 y5 y6
                go_wp2_with fail
                exact ⟨⟨j + 1, by omega, rfl, by go_num, (by rw [HSS.out]; exact (Ch.wrap sup HCHa.out rfl rfl).1), Ka.out.trans (Ch.wrap sup HCHa.out rfl rfl).2⟩, by simp [intOf]; omega⟩
              · obtain rfl : m = j := by omega
                have HE : Hid (down n F k = sups n l2 m) := HC2
                have KE := Lib.hid (KQ.out.trans K7.out)
                have y0 := K7.out.cell (HB5.out.cell 0)
                generalize sups n l2 m = l1 at *
                obtain ⟨a1, c1, rfl, hb3, hb4⟩ := HCH7.out.form
                have ht3 : decide (0 < top n l1) = true := by have := HTN.out; simp; omega
                generalize top n l1 = tq at *
                go_wp2_with fail
                go_roundw
                case rel => exact ⟨k, by omega, rfl, by go_num, (by rw [HE.out]; exact HCH7.out), KE.out⟩
                case measure => simp [intOf]
end Go.Proofs.Ytimllpocefbcbaa.wr
