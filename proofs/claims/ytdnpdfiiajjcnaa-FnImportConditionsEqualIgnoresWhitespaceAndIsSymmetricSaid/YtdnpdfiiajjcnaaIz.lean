/-
  zzBytes over this seat's program: where it says yes the lists and all that lie in them are at most 2^20 long.
  Conditions: the lists are readable.
-/
import Derived.Test.YtdnpdfiiajjcnaaIb
namespace Go.Proofs.Ytdnpdfiiajjcnaa.ic
open Go.ChangeShapes Go.WideShapes Go.ChangeAt Go.RowKit
open kit

def ZB (w : World) (F G : Ct) (e : Ending) (w' : World) : Prop := (∃ b, e = .returned (.bool b) ∧ (b = true → F.length ≤ 1048576 ∧ G.length ≤ 1048576 ∧ Lens F 1048576 F.length ∧ Lens G 1048576 G.length)) ∧ w = w'
def Zo (w0 : World) (n : Nat) (F : Ct) (t5 t6 : Value) (W : World) : Prop := ∃ (k : Nat) (x : Int), k ≤ n ∧ t6 = .int .i64 (k : Int) ∧ t5 = .int .i64 x ∧ Hid (Lens F 1048576 k) ∧ W = w0
def Zi (w0 : World) (n : Nat) (t5 t7 : Value) (W : World) : Prop := ∃ (k : Nat) (x : Int), k ≤ n ∧ t7 = .int .i64 (k : Int) ∧ t5 = .int .i64 x ∧ W = w0

set_option maxRecDepth 100000 in
set_option maxHeartbeats 8000000 in
theorem zz (w : World) (a1 : Option Addr) (n1 c1 : Nat) (F : Ct) (a2 : Option Addr) (n2 c2 : Nat) (G : Ct) (h1 : IcsC w (.slice a1 n1 c1) F) (hF : F.length = n1) (h2 : IcsC w (.slice a2 n2 c2) G) (hG : G.length = n2) (m1 : n1 ≤ 9223372036854775807) (m2 : n2 ≤ 9223372036854775807) :
    Calls Try.prog 4 #[.slice a1 n1 c1, .slice a2 n2 c2] w (ZB w F G) := by
  obtain rfl := hF
  obtain rfl := hG
  have H1 := Lib.hid h1
  have H2 := Lib.hid h2
  clear h1 h2
  go_enter Try.func4, Try.ntmps4
  by_cases hn6 : F.length ≤ 1048576
  · go_wp2_with fail
    obtain ⟨wz6, rfl⟩ : ∃ wk : World, wk = w := ⟨_, rfl⟩
    go_loopw [5, 6] (fun t5 t6 W => Zo wz6 F.length F t5 t6 W) (fun _ t6 _ => F.length - (intOf t6).toNat)
    case atStart => exact ⟨0, _, Nat.zero_le _, rfl, rfl, Lib.hid (fun i hi => absurd hi (by omega)), rfl⟩
    case round =>
      obtain ⟨k, x, hk, rfl, rfl, HS, rfl⟩ := hrel
      by_cases hlt : k < F.length
      · obtain ⟨b, off, ea, _, a1', c1', a2', c2', a3', c3', a4', c4', x1, x2, x3, x4, r1, r2, r3, r4, _⟩ := H1.out.at_ hlt
        cases ea
        have R1 := Lib.hid r1
        have R3 := Lib.hid r3
        have k0 : (k : Int) < (F.length : Int) := by omega
        have R1c := R1.out.2.1
        have R1m : c1' ≤ 9223372036854775807 := by have := R1.out.2.2.1; unfold maxLen at this; exact this
        have R3c := R3.out.2.1
        have R3m : c3' ≤ 9223372036854775807 := by have := R3.out.2.2.1; unfold maxLen at this; exact this
        clear r1 r2 r3 r4
        by_cases l1 : (at_ F k).L.length ≤ 1048576
        · as_aux_lemma =>
          go_wp2_with fail
          · (go_ret; exact ⟨⟨false, rfl, fun h => by cases h⟩, rfl⟩)
          · skip
            obtain ⟨wk7, rfl⟩ : ∃ wk : World, wk = wr := ⟨_, rfl⟩
            go_loopw [5, 7] (fun t5 t7 W => Zi wk7 (at_ F k).L.length t5 t7 W) (fun _ t7 _ => (at_ F k).L.length - (intOf t7).toNat)
            case atStart => exact ⟨0, _, Nat.zero_le _, rfl, rfl, rfl⟩
            case round =>
              obtain ⟨j, y, hj, rfl, rfl, rfl⟩ := hrel
              by_cases hlt7 : j < (at_ F k).L.length
              · obtain ⟨bb, oo, ee, _, hc⟩ := R1.out.at_ ByteArray.empty hlt7
                subst ee
                have j0 : (j : Int) < ((at_ F k).L.length : Int) := by omega
                generalize (at_ F k).L.getD j ByteArray.empty = s at *
                as_aux_lemma =>
                go_wp2_with fail
                · (go_ret; exact ⟨⟨false, rfl, fun h => by cases h⟩, rfl⟩)
                · (go_ret; exact ⟨⟨false, rfl, fun h => by cases h⟩, rfl⟩)
                · go_roundw
                  case rel => exact ⟨j + 1, _, by omega, by go_num, rfl, rfl⟩
                  case measure => simp [intOf]; omega
              · obtain rfl : j = (at_ F k).L.length := by omega
                have HLB := Lib.hid (fun h2 h3 h4 => Lens.step HS.out ⟨l1, h2, h3, h4⟩)
                generalize (at_ F k).L.length = n1 at *
                generalize hn2 : (at_ F k).lw.length = n2 at *
                clear hn2 HS
                by_cases l2 : n2 ≤ 1048576
                · by_cases l3 : (at_ F k).S.length ≤ 1048576
                  · as_aux_lemma =>
                    go_wp2_with fail
                    · (go_ret; exact ⟨⟨false, rfl, fun h => by cases h⟩, rfl⟩)
                    · (go_ret; exact ⟨⟨false, rfl, fun h => by cases h⟩, rfl⟩)
                    · skip
                      obtain ⟨wk8, rfl⟩ : ∃ wk : World, wk = wr := ⟨_, rfl⟩
                      go_loopw [5, 8] (fun t5 t7 W => Zi wk8 (at_ F k).S.length t5 t7 W) (fun _ t7 _ => (at_ F k).S.length - (intOf t7).toNat)
                      case atStart => exact ⟨0, _, Nat.zero_le _, rfl, rfl, rfl⟩
                      case round =>
                        obtain ⟨j, y, hj, rfl, rfl, rfl⟩ := hrel
                        by_cases hlt8 : j < (at_ F k).S.length
                        · obtain ⟨bb, oo, ee, _, hc⟩ := R3.out.at_ ByteArray.empty hlt8
                          subst ee
                          have j0 : (j : Int) < ((at_ F k).S.length : Int) := by omega
                          generalize (at_ F k).S.getD j ByteArray.empty = s at *
                          as_aux_lemma =>
                          go_wp2_with fail
                          · (go_ret; exact ⟨⟨false, rfl, fun h => by cases h⟩, rfl⟩)
                          · (go_ret; exact ⟨⟨false, rfl, fun h => by cases h⟩, rfl⟩)
                          · go_roundw
                            case rel => exact ⟨j + 1, _, by omega, by go_num, rfl, rfl⟩
                            case measure => simp [intOf]; omega
                        · obtain rfl : j = (at_ F k).S.length := by omega
                          generalize (at_ F k).S.length = n3 at *
                          by_cases l4 : (at_ F k).sw.length ≤ 1048576
                          · generalize (at_ F k).sw.length = n4 at *
                            as_aux_lemma =>
                            go_wp2_with fail
                            · (go_ret; exact ⟨⟨false, rfl, fun h => by cases h⟩, rfl⟩)
                            · go_roundw
                              case rel => exact ⟨k + 1, _, by omega, by go_num, rfl, Lib.hid (HLB.out l2 l3 l4), rfl⟩
                              case measure => simp [intOf]; omega
                          · generalize (at_ F k).sw.length = n4 at *
                            as_aux_lemma =>
                            go_wp2_with fail
                            all_goals (go_ret; exact ⟨⟨false, rfl, fun h => by cases h⟩, rfl⟩)
                  · go_wp2_with fail
                    all_goals (go_ret; exact ⟨⟨false, rfl, fun h => by cases h⟩, rfl⟩)
                · go_wp2_with fail
                  all_goals (go_ret; exact ⟨⟨false, rfl, fun h => by cases h⟩, rfl⟩)
        · as_aux_lemma =>
          go_wp2_with fail
          (go_ret; exact ⟨⟨false, rfl, fun h => by cases h⟩, rfl⟩)
      · obtain rfl : k = F.length := by omega
        have HSF := HS
        clear HS
        by_cases hn9 : G.length ≤ 1048576
        · go_wp2_with fail
          (go_ret; exact ⟨⟨false, rfl, fun h => by cases h⟩, rfl⟩)
          obtain ⟨wz9, rfl⟩ : ∃ wk : World, wk = wr := ⟨_, rfl⟩
          go_loopw [5, 9] (fun t5 t6 W => Zo wz9 G.length G t5 t6 W) (fun _ t6 _ => G.length - (intOf t6).toNat)
          case atStart => exact ⟨0, _, Nat.zero_le _, rfl, rfl, Lib.hid (fun i hi => absurd hi (by omega)), rfl⟩
          case round =>
            obtain ⟨k, x, hk, rfl, rfl, HS, rfl⟩ := hrel
            by_cases hlt : k < G.length
            · obtain ⟨b, off, ea, _, a1', c1', a2', c2', a3', c3', a4', c4', x1, x2, x3, x4, r1, r2, r3, r4, _⟩ := H2.out.at_ hlt
              cases ea
              have R1 := Lib.hid r1
              have R3 := Lib.hid r3
              have k0 : (k : Int) < (G.length : Int) := by omega
              have R1c := R1.out.2.1
              have R1m : c1' ≤ 9223372036854775807 := by have := R1.out.2.2.1; unfold maxLen at this; exact this
              have R3c := R3.out.2.1
              have R3m : c3' ≤ 9223372036854775807 := by have := R3.out.2.2.1; unfold maxLen at this; exact this
              clear r1 r2 r3 r4
              by_cases l1 : (at_ G k).L.length ≤ 1048576
              · as_aux_lemma =>
                go_wp2_with fail
                · (go_ret; exact ⟨⟨false, rfl, fun h => by cases h⟩, rfl⟩)
                · skip
                  obtain ⟨wk10, rfl⟩ : ∃ wk : World, wk = wr := ⟨_, rfl⟩
                  go_loopw [5, 10] (fun t5 t7 W => Zi wk10 (at_ G k).L.length t5 t7 W) (fun _ t7 _ => (at_ G k).L.length - (intOf t7).toNat)
                  case atStart => exact ⟨0, _, Nat.zero_le _, rfl, rfl, rfl⟩
                  case round =>
                    obtain ⟨j, y, hj, rfl, rfl, rfl⟩ := hrel
                    by_cases hlt10 : j < (at_ G k).L.length
                    · obtain ⟨bb, oo, ee, _, hc⟩ := R1.out.at_ ByteArray.empty hlt10
                      subst ee
                      have j0 : (j : Int) < ((at_ G k).L.length : Int) := by omega
                      generalize (at_ G k).L.getD j ByteArray.empty = s at *
                      as_aux_lemma =>
                      go_wp2_with fail
                      · (go_ret; exact ⟨⟨false, rfl, fun h => by cases h⟩, rfl⟩)
                      · (go_ret; exact ⟨⟨false, rfl, fun h => by cases h⟩, rfl⟩)
                      · go_roundw
                        case rel => exact ⟨j + 1, _, by omega, by go_num, rfl, rfl⟩
                        case measure => simp [intOf]; omega
                    · obtain rfl : j = (at_ G k).L.length := by omega
                      have HLB := Lib.hid (fun h2 h3 h4 => Lens.step HS.out ⟨l1, h2, h3, h4⟩)
                      generalize (at_ G k).L.length = n1 at *
                      generalize hn2 : (at_ G k).lw.length = n2 at *
                      clear hn2 HS
                      by_cases l2 : n2 ≤ 1048576
                      · by_cases l3 : (at_ G k).S.length ≤ 1048576
                        · as_aux_lemma =>
                          go_wp2_with fail
                          · (go_ret; exact ⟨⟨false, rfl, fun h => by cases h⟩, rfl⟩)
                          · (go_ret; exact ⟨⟨false, rfl, fun h => by cases h⟩, rfl⟩)
                          · skip
                            obtain ⟨wk11, rfl⟩ : ∃ wk : World, wk = wr := ⟨_, rfl⟩
                            go_loopw [5, 11] (fun t5 t7 W => Zi wk11 (at_ G k).S.length t5 t7 W) (fun _ t7 _ => (at_ G k).S.length - (intOf t7).toNat)
                            case atStart => exact ⟨0, _, Nat.zero_le _, rfl, rfl, rfl⟩
                            case round =>
                              obtain ⟨j, y, hj, rfl, rfl, rfl⟩ := hrel
                              by_cases hlt11 : j < (at_ G k).S.length
                              · obtain ⟨bb, oo, ee, _, hc⟩ := R3.out.at_ ByteArray.empty hlt11
                                subst ee
                                have j0 : (j : Int) < ((at_ G k).S.length : Int) := by omega
                                generalize (at_ G k).S.getD j ByteArray.empty = s at *
                                as_aux_lemma =>
                                go_wp2_with fail
                                · (go_ret; exact ⟨⟨false, rfl, fun h => by cases h⟩, rfl⟩)
                                · (go_ret; exact ⟨⟨false, rfl, fun h => by cases h⟩, rfl⟩)
                                · go_roundw
                                  case rel => exact ⟨j + 1, _, by omega, by go_num, rfl, rfl⟩
                                  case measure => simp [intOf]; omega
                              · obtain rfl : j = (at_ G k).S.length := by omega
                                generalize (at_ G k).S.length = n3 at *
                                by_cases l4 : (at_ G k).sw.length ≤ 1048576
                                · generalize (at_ G k).sw.length = n4 at *
                                  as_aux_lemma =>
                                  go_wp2_with fail
                                  · (go_ret; exact ⟨⟨false, rfl, fun h => by cases h⟩, rfl⟩)
                                  · go_roundw
                                    case rel => exact ⟨k + 1, _, by omega, by go_num, rfl, Lib.hid (HLB.out l2 l3 l4), rfl⟩
                                    case measure => simp [intOf]; omega
                                · generalize (at_ G k).sw.length = n4 at *
                                  as_aux_lemma =>
                                  go_wp2_with fail
                                  all_goals (go_ret; exact ⟨⟨false, rfl, fun h => by cases h⟩, rfl⟩)
                        · go_wp2_with fail
                          all_goals (go_ret; exact ⟨⟨false, rfl, fun h => by cases h⟩, rfl⟩)
                      · go_wp2_with fail
                        all_goals (go_ret; exact ⟨⟨false, rfl, fun h => by cases h⟩, rfl⟩)
              · as_aux_lemma =>
                go_wp2_with fail
                (go_ret; exact ⟨⟨false, rfl, fun h => by cases h⟩, rfl⟩)
            · obtain rfl : k = G.length := by omega
              go_wp2_with fail
              go_ret
              exact ⟨⟨true, rfl, fun _ => ⟨hn6, hn9, HSF.out, HS.out⟩⟩, rfl⟩
        · go_wp2_with fail
          (go_ret; exact ⟨⟨false, rfl, fun h => by cases h⟩, rfl⟩)
  · go_wp2_with fail
    (go_ret; exact ⟨⟨false, rfl, fun h => by cases h⟩, rfl⟩)
end Go.Proofs.Ytdnpdfiiajjcnaa.ic
