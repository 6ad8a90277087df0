/-
  The law's walk over this seat's program: it answers true.
  Conditions: ast.InvalidRef reads as the program's text lays it.
-/
import Derived.Test.YtilhckihpgfkfaaDoorSw
namespace Go.Proofs.YtilhckihpgfkfaaDoor.sr
open Go.ChangeShapes Go.WideShapes Go.ChangeAt Go.RowKit
open kit

def LawTrue (w : World) (e : Ending) (w' : World) : Prop := e = .returned (.bool true) ∧ Kept w w'
def LP (w : World) (n : Nat) (t30 : Value) (W : World) : Prop := ∃ k : Nat, k ≤ n ∧ t30 = .int .i64 (k : Int) ∧ Kept w W
def TP (w : World) (n : Nat) (t24 : Value) (W : World) : Prop := ∃ k : Nat, k ≤ n ∧ t24 = .int .i64 (k : Int) ∧ Pq w W n k
set_option maxRecDepth 100000 in
set_option maxHeartbeats 8000000 in
theorem law (w : World) (n : Nat) (fmt : Int) (external cjs : Bool) (ns : Nat) (ei wrap : Int) (live async : Bool) (loc : Int) (hn : n ≤ 65535) (hf : 0 ≤ fmt) (hw0 : 0 ≤ wrap) (hi0 : w.cell? ⟨0, 0, none⟩ = some (.int .u32 4294967295)) (hi1 : w.cell? ⟨0, 1, none⟩ = some (.int .u32 4294967295)) :
    Calls Tryd.prog 3 #[.int .u16 (n : Int), .int .u8 fmt, .bool external, .bool cjs, .int .u32 (ns : Int), .int .u32 ei, .int .u8 wrap, .bool live, .bool async, .int .i32 loc] w (LawTrue w) := by
  have HI0 := Lib.hid hi0
  have HI1 := Lib.hid hi1
  clear hi0 hi1
  by_cases g1 : 3 < fmt
  · go_enter Tryd.func3, Tryd.ntmps3
    go_wp2_with fail
    go_ret
    exact ⟨rfl, Kept.refl _⟩
  by_cases g2 : 2 < wrap
  · go_enter Tryd.func3, Tryd.ntmps3
    go_wp2_with fail
    go_ret
    exact ⟨rfl, Kept.refl _⟩
  by_cases g3 : (8 : Int) ≤ (ns : Int)
  · go_enter Tryd.func3, Tryd.ntmps3
    go_wp2_with fail
    go_ret
    exact ⟨rfl, Kept.refl _⟩
  obtain ⟨C, l1, _, _, m1⟩ := makeN1 (T := 28) (E := 34) (size := 2) (bytes := 24) Tryd.underlying28 (by kernel_rfl) (by kernel_rfl) n (by omega) (by omega)
  have hns : ns < 8 := by omega
  go_enter Tryd.func3, Tryd.ntmps3
  go_upto_region 6 with fail
  go_wp2_with fail
  refine (removeFiles w external cjs live async ei wrap 7).mono ?_
  rintro e w1 ⟨⟨v1, rfl, hv⟩, k1⟩
  have HV := Lib.hid hv
  have K1 := Lib.hid k1
  clear hv k1
  go_wp2_with fail
  refine (newCtx w1 v1 fmt _ _ _ HV.out (by cases external <;> simp) (K1.out.cell HI0.out) (K1.out.cell HI1.out)).mono ?_
  rintro e w2 ⟨cb, ob, LB, g, rfl, hx⟩
  have HX := Lib.hid hx
  have K2 := Lib.hid (K1.out.trans hx.kept)
  have K12 := Lib.hid hx.kept
  clear hx HV
  have HA0 : Hid (TP w2 n (.int .i64 0) (w2.alloc (.cells C.toArray 34))) := Lib.hid ⟨0, Nat.zero_le _, rfl, (Kept.refl _).alloc _, C, Blk.new _ _ _, l1, fun i hi => absurd hi (by omega)⟩
  go_upto_region 9 with fail
  clear m1 l1
  generalize w2.alloc (.cells C.toArray 34) = w3 at *
  go_loopw [24] (fun t24 W => TP w2 n t24 W) (fun t24 _ => n - (intOf t24).toNat)
  case atStart => exact HA0.out
  case round =>
    obtain ⟨k, hk, rfl, hp⟩ := hrel
    have HP := Lib.hid hp
    obtain ⟨w4, rfl⟩ : ∃ w4 : World, w4 = wr := ⟨_, rfl⟩
    clear hp HA0
    by_cases hlt : k < n
    · have k0 : (k : Int) < (n : Int) := by omega
      go_wp2_with fail
      refine (exprStmt w4 _).mono ?_
      rintro e w5 ⟨⟨v, rfl, hbare, hone⟩, k5⟩
      have HP5 := Lib.hid (HP.out.kept2 k5)
      have HN : Hid (Pq w2 (w5.setCells w2.heap.size (k * 2) [v, .int .i32 (-1 - (k : Int))]) n (k + 1)) := Lib.hid (HP5.out.step hlt v hbare hone)
      have HTH : Hid (w5.there w2.heap.size (k * 2) (#[v, .int .i32 (-1 - (k : Int))] : Array Value).size) := Lib.hid (HP5.out.there hlt)
      have HSZ : Hid ((Tryd.prog.info? 34).map (·.size) = some (#[v, .int .i32 (-1 - (k : Int))] : Array Value).size) := Lib.hid (by kernel_rfl)
      have HON : Hid ((#[v, .int .i32 (-1 - (k : Int))] : Array Value).all (·.oneCell') = true) := Lib.hid (by simpa [Value.oneCell'] using hone)
      clear k5 hbare hone
      go_wp2_with (with_reducible refine wpList_store_mid rfl 34 (.tmp 67) (.tmp 66) rfl w2.heap.size (k * 2) #[v, .int .i32 (-1 - (k : Int))] rfl rfl HTH.out HSZ.out HON.out ?_)
      go_roundw
      case rel => exact ⟨k + 1, by omega, by go_num, HN.out⟩
      case measure => simp [intOf]; omega
    · obtain rfl : k = n := by omega
      obtain ⟨l, hl, hwk, hg⟩ := HP.out.fin hn
      have HG := Lib.hid hg
      have HW : Hid (Wk w4 w1.heap.size 34 2 sc (.slice (some ⟨w2.heap.size, 0, none⟩) k k) l) := Lib.hid ⟨hwk.1, own_mono hwk.2 K12.out.size⟩
      have HX4 := Lib.hid (HX.out.kept2 HP.out.kept)
      have K4 := Lib.hid (K2.out.trans HP.out.kept)
      subst hl
      clear hwk hg HX HP K2 hlt hk
      go_wp2_with fail
      refine (newList w4 _ _ _).mono ?_
      rintro e w5 ⟨⟨lb, rfl, hlb, hlo⟩, k5⟩
      have HL := Lib.hid hlb
      have HLO := Lib.hid hlo
      have HW5 := Lib.hid (HW.out.kept k5)
      have HX5 := Lib.hid (HX4.out.kept2 k5)
      have K5 := Lib.hid (K4.out.trans k5)
      have HG5 : Hid (Good w5 l) := Lib.hid (fun i hi => ⟨(HG.out i hi).1, (HG.out i hi).2.kept k5⟩)
      have HS : Hid (w.heap.size ≤ w1.heap.size ∧ w.heap.size ≤ w4.heap.size) := Lib.hid ⟨K1.out.size, K4.out.size⟩
      clear hlb hlo k5 HW HX4 K4 HG
      go_wp2_with fail
      refine (zzRemove w5 cb lb loc ns _ (remove w1 w5 cb ob LB g lb fmt loc ei cjs external ns wrap live async _ _ l HX5.out (K5.out.cell HI0.out) (K5.out.cell HI1.out) hns HL.out HW5.out hn ⟨hw0, by omega⟩) (fun e w' h => by obtain ⟨got, t2, l2, e1, _⟩ := h; exact ⟨got, e1⟩)).mono ?_
      rintro e w6 ⟨got, t2, l2, rfl, hgot, hl2, hlb6, hw6, ht⟩
      have K6 : Hid (Kept w w6) := Lib.hid (kept_turn K5.out ht (by
        rintro b (rfl | e)
        · exact Nat.le_trans HS.out.2 HLO.out
        · exact Nat.le_trans HS.out.1 (HW5.out.low b e)))
      have HG6 := Lib.hid (HG5.out.turn HW5.out HL.out ht hl2)
      have HLA : Hid (l2.length = l.length + 1 → (l2.getD l.length (.nilIface, 0)).2 = loc) := Lib.hid (by
        rcases hl2 with rfl | ⟨v, rfl⟩
        · intro h; omega
        · intro _; simp)
      have hll : (l2.length = l.length ∧ got = got) ∨ (l2.length = l.length + 1 ∧ got = true) := by
        rcases hl2 with rfl | ⟨v, rfl⟩
        · exact .inl ⟨rfl, rfl⟩
        · cases got
          · exact absurd (congrArg List.length (hgot rfl)) (by simp)
          · exact .inr ⟨by simp, rfl⟩
      obtain ⟨⟨a2, c2, rfl⟩, _⟩ := id hw6
      have HW6 := Lib.hid hw6
      have HL6 := Lib.hid hlb6
      clear hgot hl2 hlb6 hw6 ht HX5 K5 HG5 HS HLO HL HW5 HI0 HI1
      go_wp2_with fail
      refine (lists w6 lb a2 _ c2 HL6.out).mono ?_
      rintro e w7 ⟨rfl, k7⟩
      have K7 := Lib.hid (K6.out.trans k7)
      have HW7 := Lib.hid (HW6.out.kept k7)
      have HG7 := Lib.hid (HG6.out.kept k7)
      clear k7 HL6 K6 HW6 HG6
      generalize hm : l2.length = m at *
      have HM := Lib.hid hm
      clear hm
      generalize hn2 : l.length = n at *
      clear hn2
      rcases hll with ⟨rfl, _⟩ | ⟨rfl, rfl⟩
      · cases got
        all_goals
          go_wp2_with fail
          go_loopw [30] (fun t30 W => LP w7 m t30 W) (fun t30 _ => m - (intOf t30).toNat)
          case atStart => exact ⟨0, Nat.zero_le _, rfl, Kept.refl _⟩
          case round =>
            obtain ⟨k, hk, rfl, kq⟩ := hrel
            obtain ⟨w8, rfl⟩ : ∃ w8 : World, w8 = wr := ⟨_, rfl⟩
            have KQ := Lib.hid kq
            clear kq
            by_cases hlt : k < m
            · obtain ⟨g1, c1, ea, b1, b2, c0, c1'⟩ := wkAt2 (HW7.out.kept KQ.out) (k := k) (by rw [HM.out]; omega)
              have hb := Lib.hid (HG7.out.kept KQ.out k hlt).2
              rw [(HG7.out k hlt).1] at c1'
              rw [HM.out] at ea b1
              injection ea with e1 e2 e3
              subst e1
              subst e3
              generalize l2.getD k (.nilIface, 0) = x at *
              obtain ⟨xv, xz⟩ := x
              go_wp2_with fail
              refine (asExpr w8 xv _ hb.out).mono ?_
              rintro e w9 ⟨rfl, k9⟩
              have KN := Lib.hid (KQ.out.trans k9)
              clear k9 c0 c1' hb
              go_wp2_with fail
              go_roundw
              case rel => exact ⟨k + 1, by omega, by go_num, KN.out⟩
              case measure => simp [intOf]; omega
            · obtain rfl : k = m := by omega
              go_wp2_with fail
              go_ret
              exact ⟨rfl, K7.out.trans KQ.out⟩
      · go_wp2_with fail
        go_loopw [30] (fun t30 W => LP w7 n t30 W) (fun t30 _ => n - (intOf t30).toNat)
        case atStart => exact ⟨0, Nat.zero_le _, rfl, Kept.refl _⟩
        case round =>
          obtain ⟨k, hk, rfl, kq⟩ := hrel
          obtain ⟨w8, rfl⟩ : ∃ w8 : World, w8 = wr := ⟨_, rfl⟩
          have KQ := Lib.hid kq
          clear kq
          by_cases hlt : k < n
          · obtain ⟨g1, c1, ea, b1, b2, c0, c1'⟩ := wkAt2 (HW7.out.kept KQ.out) (k := k) (by rw [HM.out]; omega)
            have hb := Lib.hid (HG7.out.kept KQ.out k hlt).2
            rw [(HG7.out k hlt).1] at c1'
            rw [HM.out] at ea b1
            injection ea with e1 e2 e3
            subst e1
            subst e3
            generalize l2.getD k (.nilIface, 0) = x at *
            obtain ⟨xv, xz⟩ := x
            go_wp2_with fail
            refine (asExpr w8 xv _ hb.out).mono ?_
            rintro e w9 ⟨rfl, k9⟩
            have KN := Lib.hid (KQ.out.trans k9)
            clear k9 c0 c1' hb
            go_wp2_with fail
            go_roundw
            case rel => exact ⟨k + 1, by omega, by go_num, KN.out⟩
            case measure => simp [intOf]; omega
          · obtain rfl : k = n := by omega
            obtain ⟨g1, c1, ea, b1, b2, c0, c1'⟩ := wkAt2 (HW7.out.kept KQ.out) (k := k) (by rw [HM.out]; omega)
            rw [HLA.out (by first | rfl | trivial)] at c1'
            rw [HM.out] at ea b1
            injection ea with e1 e2 e3
            subst e1
            subst e3
            generalize (l2.getD k (.nilIface, 0)).1 = xv at *
            go_wp2_with fail
            go_ret
            exact ⟨rfl, K7.out.trans KQ.out⟩
end Go.Proofs.YtilhckihpgfkfaaDoor.sr
