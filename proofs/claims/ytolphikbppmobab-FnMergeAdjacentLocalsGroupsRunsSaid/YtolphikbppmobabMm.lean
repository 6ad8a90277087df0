/-
  The walk of mergeAdjacentLocalStmts over this seat's program.
  Conditions: the row of statements is freshly built; at most 65536 statements and numbers.
-/
import Derived.Test.YtolphikbppmobabMo
import Derived.Test.YtolphikbppmobabMa
import Derived.IntWalk
import Derived.Deep.QuietTactic
import Derived.BigQuiet
import Derived.Deep.RegionHeld3
import Derived.Outline
import Derived.Deep.RegionLaw
import Derived.Deep.DeepCutAuto
namespace Go.Proofs.Ytolphikbppmobab.mj
open Go.ChangeShapes Go.WideShapes Go.ChangeAt Go.RowKit
open kit

def Mr (ks : List Nat) (xs : List Bool) (ds : List Nat) (w : World) (B R n : Nat) (t3 t4 t19 : Value) (W : World) : Prop :=
  ∃ (p s L : Nat) (did : Bool) (rc : List Value), p + 1 ≤ n ∧ t19 = .int .i64 (p : Int) ∧ t4 = .int .i64 ((cnt ks xs s : Int) + 1) ∧ t3 = .bool did ∧ Mi ks xs ds B R n (p + 1) s L did rc W ∧ Below R w W

def MPost (ks : List Nat) (xs : List Bool) (ds : List Nat) (w : World) (B R n : Nat) (e : Ending) (w' : World) : Prop :=
  ∃ s L did rc, e = .returned (.slice (some ⟨R, 0, none⟩) (cnt ks xs n) n) ∧ Mi ks xs ds B R n n s L did rc w' ∧ Below R w w'
theorem brkT {ks : List Nat} {xs : List Bool} {s i : Nat} (h : Seg ks xs s i) : (8 ≤ ks.getD i 0 ∨ 8 ≤ ks.getD s 0 ∨ ¬ ks.getD s 0 = ks.getD i 0 ∨ ¬ xs.getD s false = xs.getD i false → brk ks xs i = true) ∧ (ks.getD i 0 < 8 → ks.getD s 0 = ks.getD i 0 → xs.getD s false = xs.getD i false → brk ks xs i = false) := by
  have hb := brk_iff h
  refine ⟨fun hh => ?_, fun a b c => hb.2 ⟨a, b, c⟩⟩
  cases hbb : brk ks xs i
  · obtain ⟨a, b, c⟩ := hb.1 hbb
    rcases hh with h | h | h | h
    · omega
    · omega
    · exact absurd b h
    · exact absurd c h
  · rfl
theorem belMore {ks : List Nat} {xs : List Bool} {ds : List Nat} {B R n i s L n1 c1 g' : Nat} {did : Bool} {rc : List Value} {a1 : Option Addr} {cs : List Value} {w W Wd W1 : World} (hb : Below R w W) (h : Mi ks xs ds B R n i s L did rc W) (q : W.ownsRow L 61 4 (.slice a1 n1 c1) n1 cs) (hLg : L ≤ g')
    (hRB : R ≤ B) (hk : Kept W Wd) (hg : Wd.grownBy W1 (Value.slice a1 n1 c1).ownBlock) (u : Value) : Below R w (W1.setCell ⟨g', 0, none⟩ u) := by
  have h1 := h.2.2.1
  have h2 := h.2.2.2.1
  have h3 := hk.size
  exact ((hb.trans (Below.mono hk.below (by omega))).grown hg (by omega) (fun k hk2 => by have := (own_lt q k (own_of_map hk2)).1; omega)).setCell (by show R ≤ g'; omega) u
theorem newAt {w : World} {t k : Nat} {cs : List Value} (h : w.heap.size = k) : Blk (w.alloc (.cells cs.toArray t)) k t cs := by
  subst h
  exact Blk.new w t cs
theorem own0 {w : World} {base n : Nat} {C : Array Value} (hC : C.size = n * 4) (hn : n ≤ maxLen) (hb : base ≤ w.heap.size) : (w.alloc (.cells C 61)).ownsRow base 61 4 (.slice (some ⟨w.heap.size, 0, none⟩) 0 n) 0 [] :=
  ⟨rfl, Or.inr ⟨w.heap.size, n, C, rfl, hb, heap_alloc_new w _, Nat.zero_le _, hn, hC, by simp⟩⟩
theorem hRw (w wr : World) (R : Nat) (rc : List Value) (h : Blk wr R 36 rc) (_hb : Below R w wr) : R < wr.heap.size := h.lt

set_option maxRecDepth 100000 in
set_option maxHeartbeats 4000000 in
theorem merge (ks : List Nat) (xs : List Bool) (ds : List Nat) (w : World) (B R n : Nat) (rc0 : List Value) (hf : fst ks ds n ≤ 65536) (h1 : 2 ≤ n) (hn : n ≤ 65536) (hRB : R ≤ B) (h0 : Mi ks xs ds B R n 1 0 B false rc0 w) :
    Calls Try.prog 15 #[.slice (some ⟨R, 0, none⟩) n n] w (MPost ks xs ds w B R n) := by
  have HI : Hid (Mr ks xs ds w B R n (.bool false) (.int .i64 1) (.int .i64 0) w) := Lib.hid ⟨0, 0, B, false, rc0, by omega, rfl, rfl, rfl, h0, Below.refl _ _⟩
  have HF := Lib.hid hf
  clear h0 hf
  have hq : ¬ n - 1 = 0 := by omega
  have hn0 : ((n : Int) == 0) = false := by rw [beq_eq_false_iff_ne]; omega
  go_enter Try.func15, Try.ntmps15
  go_wp2_with fail
  go_loopw [3, 4, 19] (fun t3 t4 t19 W => Mr ks xs ds w B R n t3 t4 t19 W) (fun _ _ t19 _ => n - (intOf t19).toNat)
  case atStart => exact HI.out
  case round =>
    obtain ⟨p, s, L, did, rc, hp, rfl, rfl, rfl, HM, HB⟩ := hrel
    clear HI
    have HB := Lib.hid HB
    have hsi : s < p + 1 := HM.2.2.2.2.1.1
    have hcs : cnt ks xs s ≤ s := cnt_le s
    have hR := HM.1
    have hrl := HM.2.1
    have HM := Lib.hid HM
    by_cases hpn : p < n - 1
    · obtain ⟨v, v1, v2, v3⟩ := HM.out.2.2.2.2.2.1 (p + 1) (Nat.le_refl _) (by omega)
      have HA : ∀ W2 : World, Kept wr W2 → Hid (brk ks xs (p + 1) = true → Mi ks xs ds B R n (p + 1 + 1) (p + 1) wr.heap.size false ((rc.set ((cnt ks xs s + 1) * 2) v).set ((cnt ks xs s + 1) * 2 + 1) (.int .i32 ((p + 1 : Nat) : Int))) ((W2.setCell ⟨R, (cnt ks xs s + 1) * 2, none⟩ v).setCell ⟨R, (cnt ks xs s + 1) * 2 + 1, none⟩ (.int .i32 ((p + 1 : Nat) : Int)))) := fun W2 hk => Lib.hid fun hb =>
        HM.out.apart (by omega) HF.out hb v1 (Ag.of_kept hk) hk.size (hR.kept hk)
      have HBa : ∀ (W2 : World) (i1 i2 : Nat) (u1 u2 : Value), Kept wr W2 → Hid (Below R w ((W2.setCell ⟨R, i1, none⟩ u1).setCell ⟨R, i2, none⟩ u2)) := fun W2 i1 i2 u1 u2 hk => Lib.hid (((HB.out.trans (Below.mono hk.below (Nat.le_of_lt hR.lt))).setCell (Nat.le_refl _) _).setCell (Nat.le_refl _) _)
      have V3 := Lib.hid v3
      obtain ⟨v0, x0, _, x2⟩ := HM.out.2.2.2.2.2.2.2
      have cx := hR.cell (cnt ks xs s * 2)
      rw [x0] at cx
      have hlast := x2.out (Nat.le_trans HM.out.2.2.1 HM.out.2.2.2.1) (nums_le HF.out (s := s) (e := p + 1) (by omega))
      have HBR := Lib.hid (brkT HM.out.2.2.2.2.1)
      have HV0 := Lib.hid x0
      clear x0
      have HC := Lib.hid (HM.out.2.2.2.2.1.cnt)
      generalize hcc : cnt ks xs s = c at *
      have HCC := Lib.hid hcc
      clear hcc
      have c0 := hR.cell ((p + 1) * 2)
      have c1 := hR.cell ((p + 1) * 2 + 1)
      rw [v1] at c0
      rw [v2] at c1
      rw [show (p + 1) * 2 = 2 + p * 2 by omega] at c0 c1
      generalize hj : ((p + 1 : Nat) : Int) = j at *
      have HJ := Lib.hid hj
      have hRa := hR.alloc (.cells #[v, .int .i32 j] 36)
      have p0 := hRa.cellD (i := (c + 1) * 2) (by omega)
      have p1 := hRa.cellD (i := (c + 1) * 2 + 1) (by omega)
      generalize rc[(c + 1) * 2] = q0 at p0
      generalize rc[(c + 1) * 2 + 1] = q1 at p1
      have z0 := hRa.free ((c + 1) * 2)
      have z1 := hRa.free ((c + 1) * 2 + 1)
      clear hRa v1 v2 v3 hj
      by_cases hk8 : 8 ≤ ks.getD (p + 1) 0
      · obtain ⟨g, g1, rfl, _⟩ := V3.out.1 hk8
        have hkA := (Kept.refl wr).alloc (.cells #[PX g, .int .i32 j] 36)
        have HN := Lib.hid ((HA _ hkA).out ((HBR.out.1 (Or.inl (by omega)))))
        have HBn := HBa _ ((c + 1) * 2) ((c + 1) * 2 + 1) (PX g) (.int .i32 j) hkA
        have ha := assertXL g
        clear HA HBa hkA
        unfold PX at *
        go_wp2_with fail
        go_roundw
        case rel => exact ⟨p + 1, p + 1, wr.heap.size, false, _, by omega, by go_num, by rw [HC.out]; go_num, rfl, HN.out, HBn.out⟩
        case measure => simp [intOf]; omega
      · obtain ⟨g, b, cs, g1, g2, rfl, g4, g5, g6⟩ := V3.out.2 (by omega)
        have hkA := (Kept.refl wr).alloc (.cells #[PL g, .int .i32 j] 36)
        have ha := assertLL g
        by_cases hs8 : 8 ≤ ks.getD s 0
        · obtain ⟨g', _, rfl, _⟩ := hlast.1 hs8
          have HN := Lib.hid ((HA _ hkA).out ((HBR.out.1 (Or.inr (Or.inl (by omega))))))
          have HBn := HBa _ ((c + 1) * 2) ((c + 1) * 2 + 1) (PL g) (.int .i32 j) hkA
          have ha2 := assertXL g'
          have hx := hkA.cell cx
          clear HA HBa hkA
          unfold PX PL at *
          go_wp2_with fail
          go_roundw
          case rel => exact ⟨p + 1, p + 1, wr.heap.size, false, _, by omega, by go_num, by rw [HC.out]; go_num, rfl, HN.out, HBn.out⟩
          case measure => simp [intOf]; omega
        · obtain ⟨g', g3, rfl, a', n', cs', q1, q2, q3, q4⟩ := hlast.2 (by omega)
          have ha2 := assertLL g'
          have hx := hkA.cell cx
          have q1a := q1.kept hkA
          have g4a := g4.kept hkA
          have x1 := q1a.cell 1
          have x2 := q1a.cell 2
          have y1 := g4a.cell 1
          have y2 := g4a.cell 2
          simp only [List.getElem?_cons_zero, List.getElem?_cons_succ] at x1 x2 y1 y2
          clear q1a g4a
          by_cases hkk : ks.getD s 0 = ks.getD (p + 1) 0
          · by_cases hxx : xs.getD s false = xs.getD (p + 1) false
            · cases did with
              | false =>
                obtain ⟨_, hS⟩ := x2.1 rfl
                obtain ⟨g2, b2, cs2, _, _, e2, r1, r2, r4⟩ := hS.2 (by omega)
                obtain rfl : g' = g2 := by unfold PL at e2; injection e2 with _ e3; injection e3 with e4; injection e4 with e5; injection e5
                have hbk := HBR.out.2 (by omega) hkk hxx
                have hl1 := nums_le HF.out (s := s) (e := p + 1) (by omega)
                have hl2 := nums_le HF.out (s := p + 1) (e := p + 1 + 1) (by omega)
                have HMo := Lib.hid fun (W1 : World) (G : Nat) (a3 : Option Addr) (c3 : Nat) (hk : Kept wr W1) (hG : wr.heap.size ≤ G) => HM.out.clone (a2 := a3) (c2 := c3) (by omega) hbk r4 rfl g6 rfl hk hG
                have HNw := Lib.hid fun (Wd : World) (hk : Kept wr Wd) => World.news_of_block (g5.kept hk)
                have HNw2 := Lib.hid fun (Wd : World) (hk : Kept wr Wd) => World.news_of_block (r2.kept hk)
                have HBel := Lib.hid fun (Wd : World) (u : Value) (hk : Kept wr Wd) => (HB.out.trans (Below.mono hk.below (Nat.le_of_lt hR.lt))).setCell (p := ⟨R, c * 2, none⟩) (Nat.le_refl _) u
                have hc4 : cs.length = (nums ks ds (p + 1) (p + 1 + 1)).length * 4 := g6.1.1
                have hc5 : cs2.length = (nums ks ds s (p + 1)).length * 4 := r4.1.1
                have HO := Lib.hid g6.1.2
                have HO2 := Lib.hid r4.1.2
                have HRR := Lib.hid hR
                have HR1 := Lib.hid r1
                have HG4 := Lib.hid g4
                obtain ⟨i0, z, hi, hz, hz1, hz2, hz3⟩ := infoN (E := 61) (size := 4) (bytes := 48) (by kernel_rfl)
                generalize (nums ks ds s (p + 1)).length = n1 at *
                generalize (nums ks ds (p + 1) (p + 1 + 1)).length = m at *
                obtain ⟨C, hCs, hmk⟩ := makeNc (T := 46) (E := 61) (size := 4) (bytes := 48) Try.underlying46 (by kernel_rfl) (n1 + m) (by omega) (by omega)
                rw [Int.natCast_add] at hmk
                have HMK := Lib.hid hmk
                have HCS := Lib.hid hCs
                have t0 := (r1.kept hkA).cell 0
                have t3 := (r1.kept hkA).cell 3
                simp only [List.getElem?_cons_zero, List.getElem?_cons_succ] at t0 t3
                have HC4 := Lib.hid hc4
                have HC5 := Lib.hid hc5
                generalize ks.getD s 0 = K1 at *
                generalize ks.getD (p + 1) 0 = K2 at *
                generalize xs.getD s false = X1 at *
                generalize xs.getD (p + 1) false = X2 at *
                subst hkk hxx
                have HKA := Lib.hid fun q => hkA.drewN q
                clear HA HBa hkA hc4 hc5 r1 r2 r4 hbk g4 g5 g6 x2 hlast q1 q2 q3 q4 V3 e2 hmk hCs hR
                unfold PL at *
                go_wp2_with fail
                go_quiet (fail)
                go_upto_region 16 with (fail)
                go_cut [11] (fun t11 W => ∃ G, t11 = .pointer (some ⟨G, 0, none⟩) ∧ Hid (Blk W G 49 [.slice (some ⟨b2, 0, none⟩) n1 n1, .int .u8 (K1 : Int), .bool X1, .bool false] ∧ Kept wr W ∧ wr.heap.size ≤ G))
                case first =>
                  go_wp2_with fail
                  go_meet
                  exact ⟨_, rfl, Lib.hid ⟨newAt (by simp), (HKA.out _).alloc _, by simp⟩⟩
                case rest =>
                  obtain ⟨G, rfl, HG⟩ := hcut
                  go_upto_region 17 with (fail)
                  go_cut [] (fun W => Hid (∃ row, Blk W G 49 [.slice (some ⟨row, 0, none⟩) 0 (n1 + m), .int .u8 (K1 : Int), .bool X1, .bool false] ∧ W.ownsRow wr.heap.size 61 4 (.slice (some ⟨row, 0, none⟩) 0 (n1 + m)) 0 [] ∧ Kept wr W))
                  case first =>
                    have e0 := (HR1.out.kept HG.out.2.1).cell 0
                    have e1 := (HG4.out.kept HG.out.2.1).cell 0
                    have e2 := (HG.out.1.alloc (.cells C 61)).cell 0
                    have e3 := (HG.out.1.alloc (.cells C 61)).free 0
                    simp only [List.getElem?_cons_zero] at e0 e1 e2
                    have W3 := IntWalk.i64_in ((n1 : Int) + (m : Int)) (by omega)
                    have hmk := HMK.out
                    go_region
                    all_goals (go_wp2_with fail; go_meet)
                    all_goals exact Lib.hid ⟨_, (HG.out.1.alloc (.cells C 61)).set 0 _, own_far (own0 HCS.out (by unfold maxLen; omega) (HG.out.2.1.size)) (by have := HG.out.1.lt; simp [Value.ownBlock]; omega), ((HG.out.2.1.alloc _).setCell HG.out.2.2 _).drew⟩
                  case rest =>
                    obtain ⟨row, d1, d2, d3⟩ := hcut.out
                    have D1 := Lib.hid d1
                    have D2 := Lib.hid d2
                    have D3 := Lib.hid d3
                    clear d1 d2 d3 hcut
                    go_upto_region 18 with (fail)
                    go_cut [] (fun W => Hid (∃ a c, Blk W G 49 [.slice a n1 c, .int .u8 (K1 : Int), .bool X1, .bool false] ∧ W.ownsRow wr.heap.size 61 4 (.slice a n1 c) n1 cs2 ∧ Kept wr W))
                    case first =>
                      have e0 := (HR1.out.kept D3.out).cell 0
                      have e2 := D1.out.cell 0
                      simp only [List.getElem?_cons_zero] at e0 e2
                      go_region_law ((refine step_append_at (by rfl) _ _ _ (by rfl) wr.heap.size 61 i0 z 4 48 Try.underlying46 hi hz hz1 hz2 hz3 (by decide) (.slice (some ⟨row, 0, none⟩) 0 (n1 + m)) 0 [] (by rfl) (own_kept D2.out ((Kept.refl _).drew)) ⟨b2, 0, none⟩ n1 n1 cs2 (by rfl) HC5.out (HNw2.out _ D3.out.drew) HO2.out (by unfold maxLen; omega) (by omega) D3.out.size ?_; intro a3 c3 w1 hown hgrow; have hb1 := D1.out.drew.grown hgrow (fun e => D1.out.notOwned D2.out (by decide) e.symm); have f0 := hb1.cell 0; have z0 := hb1.free 0; simp only [List.getElem?_cons_zero] at f0))
                      all_goals
                        simp only [Nat.zero_add, List.nil_append] at hown
                        have HO1 := Lib.hid hown
                        have HB1 := Lib.hid hb1
                        have HK1 := Lib.hid (Kept.of (Below.grown D3.out.drew.below hgrow D3.out.size (fun k hk2 => (own_lt D2.out k (own_of_map hk2)).1)))
                        clear hown hb1 hgrow
                        go_wp2_with fail
                        go_meet
                        exact Lib.hid ⟨_, _, HB1.out.set 0 _, own_far HO1.out (HB1.out.notOwned HO1.out (by decide)), HK1.out.setCell HG.out.2.2 _⟩
                    case rest =>
                      obtain ⟨a4, c4, d1, d2, d3⟩ := hcut.out
                      have D1 := Lib.hid d1
                      have D2 := Lib.hid d2
                      have D3 := Lib.hid d3
                      clear d1 d2 d3 hcut
                      go_upto_region 19 with (fail)
                      go_cut [] (fun W => Hid (∃ a c, Blk W G 49 [.slice a (n1 + m) c, .int .u8 (K1 : Int), .bool X1, .bool false] ∧ W.ownsRow wr.heap.size 61 4 (.slice a (n1 + m) c) (n1 + m) (cs2 ++ cs) ∧ Kept wr W))
                      case first =>
                        have e0 := (HG4.out.kept D3.out).cell 0
                        have e2 := D1.out.cell 0
                        simp only [List.getElem?_cons_zero] at e0 e2
                        go_region_law ((refine step_append_at (by rfl) _ _ _ (by rfl) wr.heap.size 61 i0 z 4 48 Try.underlying46 hi hz hz1 hz2 hz3 (by decide) (.slice a4 n1 c4) n1 cs2 (by rfl) (own_kept D2.out ((Kept.refl _).drew)) ⟨b, 0, none⟩ m m cs (by rfl) HC4.out (HNw.out _ D3.out.drew) HO.out (by unfold maxLen; omega) (by omega) D3.out.size ?_; intro a3 c3 w1 hown hgrow; have hb1 := D1.out.drew.grown hgrow (fun e => D1.out.notOwned D2.out (by decide) e.symm); have f0 := hb1.cell 0; have z0 := hb1.free 0; simp only [List.getElem?_cons_zero] at f0))
                        all_goals
                          have HO1 := Lib.hid hown
                          have HB1 := Lib.hid hb1
                          have HK1 := Lib.hid (Kept.of (Below.grown D3.out.drew.below hgrow D3.out.size (fun k hk2 => (own_lt D2.out k (own_of_map hk2)).1)))
                          clear hown hb1 hgrow
                          go_wp2_with fail
                          go_meet
                          exact Lib.hid ⟨_, _, HB1.out.set 0 _, own_far HO1.out (HB1.out.notOwned HO1.out (by decide)), HK1.out.setCell HG.out.2.2 _⟩
                      case rest =>
                        obtain ⟨a5, c5, d1, d2, d3⟩ := hcut.out
                        have HN := HMo.out _ G a5 c5 d3 HG.out.2.2 d1 d2
                        rw [HCC.out] at HN
                        have HN := Lib.hid HN
                        have HBn := Lib.hid (HBel.out _ (.iface 44 (.pointer (some ⟨G, 0, none⟩))) d3)
                        have hR3 := HRR.out.kept d3
                        have e0 := hR3.cellD (i := c * 2) (by omega)
                        have e1 := hR3.free (c * 2)
                        generalize rc[c * 2] = q2 at e0
                        clear d1 d2 d3 hcut hR3
                        go_wp2_with fail
                        go_roundw
                        case rel => exact ⟨p + 1, s, wr.heap.size, true, _, by omega, by go_num, by rw [HCC.out], rfl, HN.out, HBn.out⟩
                        case measure => simp [intOf]; omega
              | true =>
                --F{
                obtain ⟨_, g2, e2, hLg, a2, c2, cs2, r1, r2, _, r4⟩ := x2.2 rfl
                obtain rfl : g' = g2 := by unfold PL at e2; injection e2 with _ e3; injection e3 with e4; injection e4 with e5; injection e5
                have hbk := HBR.out.2 (by omega) hkk hxx
                have hl1 := nums_le HF.out (s := s) (e := p + 1) (by omega)
                have hl2 := nums_le HF.out (s := p + 1) (e := p + 1 + 1) (by omega)
                have HMo := Lib.hid fun (Wd W1 : World) (a3 : Option Addr) (c3 : Nat) (hk : Kept wr Wd) => HM.out.more (a2 := a3) (c2 := c3) (W1 := W1) (by omega) hbk (by rw [HCC.out]; exact HV0.out) hLg r1 r2 r4 rfl g6 rfl hk
                have HOwn := Lib.hid fun (Wd : World) (hk : Kept wr Wd) => own_kept r2 hk
                have HNews := Lib.hid fun (Wd : World) (hk : Kept wr Wd) => World.news_of_block (g5.kept hk)
                have HBse := Lib.hid fun (Wd : World) (hk : Kept wr Wd) => Nat.le_trans HM.out.2.2.2.1 hk.size
                have HBel := Lib.hid fun (Wd W1 : World) (u : Value) (hk : Kept wr Wd) (hg : Wd.grownBy W1 (Value.slice a2 (nums ks ds s (p + 1)).length c2).ownBlock) => belMore HB.out HM.out r2 hLg hRB hk hg u
                have HG := Lib.hid fun (Wd W1 : World) (hk : Kept wr Wd) (hg : Wd.grownBy W1 (Value.slice a2 (nums ks ds s (p + 1)).length c2).ownBlock) => (r1.kept hk).grown hg (fun e => r1.notOwned r2 (by decide) e.symm)
                have hc4 : cs.length = (nums ks ds (p + 1) (p + 1 + 1)).length * 4 := g6.1.1
                have HO := Lib.hid g6.1.2
                obtain ⟨i0, z, hi, hz, hz1, hz2, hz3⟩ := infoN (E := 61) (size := 4) (bytes := 48) (by kernel_rfl)
                generalize (nums ks ds s (p + 1)).length = n1 at *
                generalize (nums ks ds (p + 1) (p + 1 + 1)).length = m at *
                have t0 := (r1.kept hkA).cell 0
                have t1 := (g4.kept hkA).cell 0
                simp only [List.getElem?_cons_zero] at t0 t1
                have HC4 := Lib.hid hc4
                generalize ks.getD s 0 = K1 at *
                generalize ks.getD (p + 1) 0 = K2 at *
                generalize xs.getD s false = X1 at *
                generalize xs.getD (p + 1) false = X2 at *
                subst hkk hxx
                have HKA := Lib.hid fun q => (hkA.drewN q).drew
                clear HA HBa hkA hc4 r1 r2 r4 hbk g4 g5 g6 x2 hlast q1 q2 q3 q4 V3 e2
                unfold PL at *
                go_wp2_with fail
                go_quiet (fail)
                go_wp2_with fail
                go_region_law ((refine step_append_at (by rfl) _ _ _ (by rfl) L 61 i0 z 4 48 Try.underlying46 hi hz hz1 hz2 hz3 (by decide) (.slice a2 n1 c2) n1 cs2 (by rfl) (HOwn.out _ (HKA.out _)) ⟨b, 0, none⟩ m m cs (by rfl) HC4.out (HNews.out _ (HKA.out _)) HO.out (by unfold maxLen; omega) (by omega) (HBse.out _ (HKA.out _)) ?_; intro a3 c3 w1 hown hgrow; have hb1 := HG.out _ _ (HKA.out _) hgrow; have f0 := hb1.cell 0; have z0 := hb1.free 0; simp only [List.getElem?_cons_zero] at f0))
                all_goals (go_wp2_with fail; go_roundw)
                all_goals first | exact ⟨p + 1, s, L, true, rc, by omega, by go_num, by rw [HCC.out], rfl, (HMo.out _ _ _ _ (HKA.out _) hown hgrow), (HBel.out _ _ _ (HKA.out _) hgrow)⟩ | (simp [intOf]; omega)
                --F}
            · --F{
              have hkb : ((ks.getD s 0 : Int) == (ks.getD (p + 1) 0 : Int)) = true := by rw [beq_iff_eq]; omega
              have hxd : decide (xs.getD s false = xs.getD (p + 1) false) = false := decide_eq_false hxx
              have hxb : (xs.getD s false == xs.getD (p + 1) false) = false := by rw [beq_eq_false_iff_ne]; exact hxx
              have HN := Lib.hid ((HA _ (hkA.drewN 0)).out ((HBR.out.1 (Or.inr (Or.inr (Or.inr hxx))))))
              have HBn := Lib.hid fun q => HBa _ ((c + 1) * 2) ((c + 1) * 2 + 1) (PL g) (.int .i32 j) (hkA.drewN q)
              generalize ks.getD s 0 = K1 at *
              generalize ks.getD (p + 1) 0 = K2 at *
              generalize xs.getD s false = X1 at *
              generalize xs.getD (p + 1) false = X2 at *
              clear HA HBa hkA hkk hxx
              unfold PL at *
              go_wp2_with fail
              go_quiet (fail)
              go_wp2_with fail
              go_roundw
              case rel => exact ⟨p + 1, p + 1, wr.heap.size, false, _, by omega, by go_num, by rw [HC.out]; go_num, rfl, HN.out, (HBn.out _).out⟩
              case measure => simp [intOf]; omega
              --F}
          · --G{
            have hkd : decide ((ks.getD s 0 : Int) = (ks.getD (p + 1) 0 : Int)) = false := decide_eq_false (by omega)
            have hkb : ((ks.getD s 0 : Int) == (ks.getD (p + 1) 0 : Int)) = false := by rw [beq_eq_false_iff_ne]; omega
            have HN := Lib.hid ((HA _ (hkA.drewN 0)).out ((HBR.out.1 (Or.inr (Or.inr (Or.inl hkk))))))
            have HBn := Lib.hid fun q => HBa _ ((c + 1) * 2) ((c + 1) * 2 + 1) (PL g) (.int .i32 j) (hkA.drewN q)
            generalize ks.getD s 0 = K1 at *
            generalize ks.getD (p + 1) 0 = K2 at *
            generalize xs.getD s false = X1 at *
            generalize xs.getD (p + 1) false = X2 at *
            clear HA HBa hkA hkk
            unfold PL at *
            go_wp2_with fail
            go_quiet (fail)
            go_wp2_with fail
            go_roundw
            case rel => exact ⟨p + 1, p + 1, wr.heap.size, false, _, by omega, by go_num, by rw [HC.out]; go_num, rfl, HN.out, (HBn.out _).out⟩
            case measure => simp [intOf]; omega
            --G}
    · obtain rfl : n = p + 1 := by omega
      have HC := Lib.hid (HM.out.2.2.2.2.1.cnt)
      have HP : Hid (MPost ks xs ds w B R (p + 1) (.returned (.slice (some ⟨R, 0, none⟩) (cnt ks xs s + 1) (p + 1))) wr) := Lib.hid ⟨s, L, did, rc, by rw [HC.out], HM.out, HB.out⟩
      generalize cnt ks xs s = c at *
      clear hR hrl
      go_wp2_with fail
      go_ret
      exact HP.out
end Go.Proofs.Ytolphikbppmobab.mj
