/-
  ZZshouldIncludePartIn over this seat's program: what it answers of the slices that came in.
  Conditions: at most 65536 elements a slice; every index that is used is in range.
-/
import Derived.Test.YtlpgghdimjmkiabSip3
import Derived.Test.YtlpgghdimjmkiabSip2
namespace Go.Proofs.Ytlpgghdimjmkiab.sip
open Go.ChangeShapes Go.WideShapes Go.ChangeAt Go.RowKit
open kit

theorem at_ {α : Type} {f : α → Value} {w : World} {a : Option Addr} {n cap : Nat} {xs : List α} (h : Row w a n cap (xs.map f)) (d : α) {k : Nat} (hk : k < n) :
    ∃ b off, a = some ⟨b, off, none⟩ ∧ w.cell? ⟨b, off + k, none⟩ = some (f (xs.getD k d)) := by
  obtain ⟨b, off, ha, hb, hc⟩ := h.2.2.2.2 (by omega)
  have hl := h.1
  have hk2 : k < xs.length := by simp only [List.length_map] at hl; omega
  exact ⟨b, off, ha, by rw [hc k (by simpa using hk2)]; simp [hk2]⟩
theorem zeroR : (Try.prog.info? 115).map (fun i => i.zero.map (·.cells[10]?)) = some (some (some (Value.int .u32 0))) := by kernel_rfl

def partV (B3 n3 : Nat) : Array Value := #[Value.slice (some { block := B3, off := 0 }) n3 n3, Value.slice none 0 0, Value.slice none 0 0,
          Value.slice none 0 0, Value.map none, Value.map none, Value.map none, Value.slice none 0 0, Value.bool false,
          Value.bool false, Value.bool false]
theorem fin (w u1 u2 wr : World) (B0 B2 B3 n0 n1 n3 r t : Nat) (zs : List Int) (bs : List Bool) (ts : List Int) (is : List Bool) (rs : List Int)
    (hF : Fl w B0 n0 t (zs.getD t 0) n0 u1) (hC : Rc u1 B2 n1 r (bs.getD r false) (ts.getD r 0) n1 u2) (hM : Sm u2 B3 n3 (is.getD 0 false) (rs.getD 0 0) n3 wr) (CL CS : Array Value) (hL : CL.size = 29) (hS : CS.size = 64)
    (hr : r = (rs.getD 0 0).toNat) (ht : t = (ts.getD r 0).toNat) (hn0 : n0 ≤ 65536) (hn3 : n3 ≤ 65536) (hts : ∀ j, 0 ≤ ts.getD j 0 ∧ ts.getD j 0 ≤ 4294967295) (hrs : ∀ j, 0 ≤ rs.getD j 0)
    (hbs : ∀ j, j < n1 → bs.getD j false = true → ts.getD j 0 < n0) (his : ∀ j, j < n3 → is.getD j false = true → rs.getD j 0 < n1) :
    Calls Try.prog 11 #[.pointer (some ⟨wr.heap.size, 0, none⟩), .pointer (some ⟨wr.heap.size + 1, 0, none⟩), .agg (partV B3 n3)] ((wr.alloc (.cells (CL.setIfInBounds 10 (.slice (some ⟨B0, 0, none⟩) n0 n0)) 155)).alloc (.cells (CS.setIfInBounds 35 (.slice (some ⟨B2, 0, none⟩) n1 n1)) 80))
      fun e w' => e = .returned (.bool (inc zs bs ts n3 is rs)) ∧ Kept u2 w' := by
  have hKM := hM.kept
  have hK9 : Kept wr ((wr.alloc (.cells (CL.setIfInBounds 10 (.slice (some ⟨B0, 0, none⟩) n0 n0)) 155)).alloc (.cells (CS.setIfInBounds 35 (.slice (some ⟨B2, 0, none⟩) n1 n1)) 80)) := ((Kept.refl _).alloc _).alloc _
  have c1 := heap_alloc2_old wr (.cells (CL.setIfInBounds 10 (.slice (some ⟨B0, 0, none⟩) n0 n0)) 155) (.cells (CS.setIfInBounds 35 (.slice (some ⟨B2, 0, none⟩) n1 n1)) 80)
  have c2 := heap_alloc2_new wr (.cells (CL.setIfInBounds 10 (.slice (some ⟨B0, 0, none⟩) n0 n0)) 155) (.cells (CS.setIfInBounds 35 (.slice (some ⟨B2, 0, none⟩) n1 n1)) 80)
  generalize (wr.alloc (.cells (CL.setIfInBounds 10 (.slice (some ⟨B0, 0, none⟩) n0 n0)) 155)).alloc (.cells (CS.setIfInBounds 35 (.slice (some ⟨B2, 0, none⟩) n1 n1)) 80) = W at *
  have hcb : W.cell? ⟨wr.heap.size, 10, none⟩ = some (.slice (some ⟨B0, 0, none⟩) n0 n0) := by
    rw [cell_of_row _ _ 10 _ 155 (0, 0) c1]; simp [hL]
  have hrb : W.cell? ⟨wr.heap.size + 1, 35, none⟩ = some (.slice (some ⟨B2, 0, none⟩) n1 n1) := by
    rw [cell_of_row _ _ 35 _ 80 (0, 0) c2]; simp [hS]
  have done : ∀ (b : Bool), inc zs bs ts n3 is rs = b → Calls Try.prog 11 #[.pointer (some ⟨wr.heap.size, 0, none⟩), .pointer (some ⟨wr.heap.size + 1, 0, none⟩), .agg (partV B3 n3)] W (fun e w' => e = .returned (.bool b) ∧ Kept W w') →
      Calls Try.prog 11 #[.pointer (some ⟨wr.heap.size, 0, none⟩), .pointer (some ⟨wr.heap.size + 1, 0, none⟩), .agg (partV B3 n3)] W (fun e w' => e = .returned (.bool (inc zs bs ts n3 is rs)) ∧ Kept u2 w') := fun b hb hc => by
    rw [hb]
    exact hc.mono fun e w' h => ⟨h.1, (hKM.trans hK9).trans h.2⟩
  by_cases h3 : n3 = 1
  · subst h3
    cases hi : is.getD 0 false
    · obtain ⟨v, hv⟩ := hM.no (by omega) hi
      exact done true (by unfold inc; rw [hi]; simp) (noImport W _ _ B3 _ v rfl (hK9.cell hv))
    · obtain ⟨sb, _, s1, s2⟩ := hM.yes (by omega) hi
      have hr0 := his 0 (by omega) hi
      have hr1 := hrs 0
      have er : (rs.getD 0 0) = (r : Int) := by omega
      have hrn : r < n1 := by omega
      rw [er] at s2
      obtain ⟨cs, hb, hl, hrec⟩ := hC.blk
      have hrc := hrec hrn
      have hcell : u2.cell? ⟨B2, r * 15 + 10, none⟩ = some (.int .u32 (if r < n1 ∧ bs.getD r false = true then 4294967295 - ts.getD r 0 else 0)) := by rw [hb.cell, hrc]
      cases hb2 : bs.getD r false
      · rw [hb2, if_neg (by simp)] at hcell
        exact done true (by unfold inc; rw [hi, ← hr, hb2]; simp) (noRecord W _ _ B3 sb B2 n1 _ r rfl (hK9.cell s1) (hK9.cell s2) hrn hrb (hK9.cell (hKM.cell hcell)))
      · rw [hb2, if_pos ⟨hrn, rfl⟩] at hcell
        have ht0 := hbs r hrn hb2
        have ht1 := (hts r).1
        have et : ts.getD r 0 = (t : Int) := by omega
        have htn : t < n0 := by omega
        rw [et] at hcell
        obtain ⟨jb, _, f1, f2⟩ := hF.hit htn
        have k1 : ∀ {a v}, u1.cell? a = some v → W.cell? a = some v := fun h => hK9.cell (hKM.cell (hC.kept.cell h))
        refine done (!(zs.getD t 0 == 0)) (by unfold inc; rw [hi, ← hr, hb2, ← ht]; simp) (oneImport W _ _ B3 sb B2 n1 B0 n0 jb _ r t (zs.getD t 0) _ rfl (hK9.cell s1) (hK9.cell s2) hrn hrb (hK9.cell (hKM.cell hcell)) htn hn0 hcb (k1 f1) (k1 f2) (by simp))
  · exact done true (by simp [inc, h3]) (many W _ _ B3 n3 _ h3 rfl hn3)

set_option maxRecDepth 100000 in
set_option maxHeartbeats 16000000 in
theorem build (w : World) (a0 : Option Addr) (n0 c0 : Nat) (zs : List Int) (a1 : Option Addr) (n1 c1 : Nat) (bs : List Bool) (a2 : Option Addr) (c2 : Nat) (ts : List Int) (a3 : Option Addr) (n3 c3 : Nat) (is : List Bool) (a4 : Option Addr) (c4 : Nat) (rs : List Int)
    (h0 : Row w a0 n0 c0 (zs.map (Value.int .u8))) (h1 : Row w a1 n1 c1 (bs.map Value.bool)) (h2 : Row w a2 n1 c2 (ts.map (Value.int .u32))) (h3 : Row w a3 n3 c3 (is.map Value.bool)) (h4 : Row w a4 n3 c4 (rs.map (Value.int .u32)))
    (hn0 : n0 ≤ 65536) (hn1 : n1 ≤ 65536) (hn3 : n3 ≤ 65536) (hts : ∀ j, 0 ≤ ts.getD j 0 ∧ ts.getD j 0 ≤ 4294967295) (hrs : ∀ j, 0 ≤ rs.getD j 0)
    (hbs : ∀ j, j < n1 → bs.getD j false = true → ts.getD j 0 < n0) (his : ∀ j, j < n3 → is.getD j false = true → rs.getD j 0 < n1) :
    Calls Try.prog 9 #[.slice a0 n0 c0, .slice a1 n1 c1, .slice a2 n1 c2, .slice a3 n3 c3, .slice a4 n3 c4] w fun e w' => e = .returned (.bool (inc zs bs ts n3 is rs)) ∧ Kept w w' := by
  obtain ⟨r, hr⟩ : ∃ r, r = (rs.getD 0 0).toNat := ⟨_, rfl⟩
  obtain ⟨t, ht⟩ : ∃ t, t = (ts.getD r 0).toNat := ⟨_, rfl⟩
  obtain ⟨CF, lF, uF, mF⟩ := makeN Try.underlying31 infoF n0 (by omega) (by omega)
  obtain ⟨CR, lR, zR, mR⟩ := makeN Try.underlying67 infoR n1 (by omega) (by omega)
  obtain ⟨CM, lM, uM, mM⟩ := makeN Try.underlying116 infoS n3 (by omega) (by omega)
  have LF := Lib.hid lF
  have LR := Lib.hid lR
  have ZR := Lib.hid (zR 10 _ (by omega) zeroR)
  have LM := Lib.hid lM
  have H0 := Lib.hid h0
  have H1 := Lib.hid h1
  have H2 := Lib.hid h2
  have H3 := Lib.hid h3
  have H4 := Lib.hid h4
  have HTS := Lib.hid hts
  have HRS := Lib.hid hrs
  have HBS := Lib.hid hbs
  have HIS := Lib.hid his
  have HR := Lib.hid hr
  have HT := Lib.hid ht
  obtain ⟨CS, hCS, hCS2⟩ : ∃ CS, Try.prog.built 80 [] = some CS ∧ CS.size = 64 := built_of (by kernel_rfl)
  have HCS := Lib.hid hCS
  have HCS2 := Lib.hid hCS2
  obtain ⟨CL, hCL, hCL2⟩ : ∃ CL, Try.prog.built 155 [] = some CL ∧ CL.size = 29 := built_of (by kernel_rfl)
  have HCL := Lib.hid hCL
  have HCL2 := Lib.hid hCL2
  obtain ⟨CE, hCE, hCE2⟩ : ∃ CE, Try.prog.built 129 [] = some CE ∧ CE.size = 3 := built_of (by kernel_rfl)
  have HCE := Lib.hid hCE
  clear uF uM lF lR zR lM h0 h1 h2 h3 h4 hts hrs hbs his hr ht hCS hCS2 hCE hCE2 hCL hCL2
  go_enter Try.func9, Try.ntmps9
  go_wp2
  have F0 : Hid (Fl w w.heap.size n0 t (zs.getD t 0) 0 (w.alloc (.cells CF.toArray 106))) := Lib.hid ⟨⟨CF, Blk.new _ _ _, LF.out⟩, (Kept.refl _).alloc _, rfl, fun h => absurd h (by omega)⟩
  go_loopw [25, 12, 13] (fun t1 _ _ wr => ∃ k : Nat, k ≤ n0 ∧ t1 = .int .i64 (k : Int) ∧ Hid (Fl w w.heap.size n0 t (zs.getD t 0) k wr)) (fun t1 _ _ _ => n0 - (intOf t1).toNat)
  case atStart => exact ⟨0, by omega, rfl, F0⟩
  case round =>
    obtain ⟨k, hk, rfl, HF⟩ := hrel
    clear F0
    by_cases hlt : k < n0
    · have hki : (k : Int) < (n0 : Int) := by omega
      obtain ⟨b, off, rfl, x0⟩ := at_ H0.out 0 hlt
      have x1 : (wr.alloc (Obj.cells CS 80)).cell? ⟨b, off + k, none⟩ = some (.int .u8 (zs.getD k 0)) := (HF.out.kept.alloc _).cell x0
      have hsz : w.heap.size < wr.heap.size := by obtain ⟨cs, hb, _⟩ := HF.out.blk; exact hb.lt
      have hs := HF.out.step hlt HCS2.out (x := zs.getD k 0) (fun e => by rw [e])
      rw [World.setCell_alloc_past _ _ _ _ hsz] at hs
      have HS := Lib.hid hs
      clear hs
      generalize zs.getD k 0 = z at *
      obtain ⟨v, y1, y2⟩ : ∃ v, (wr.alloc (Obj.cells (CS.setIfInBounds 11 (.int .u8 z)) 80)).cell? ⟨w.heap.size, k * 24 + 2, none⟩ = some v ∧ (wr.alloc (Obj.cells (CS.setIfInBounds 11 (.int .u8 z)) 80)).frozen? ⟨w.heap.size, k * 24 + 2, none⟩ = false := by
        obtain ⟨cs, hb, hl⟩ := HF.out.blk
        exact ⟨_, by rw [(hb.alloc _).cell, List.getElem?_eq_getElem (by omega)], (hb.alloc _).free _⟩
      obtain ⟨v2, y3, y4⟩ : ∃ v2, (wr.alloc (Obj.cells CS 80)).cell? ⟨wr.heap.size, 11, none⟩ = some v2 ∧ (wr.alloc (Obj.cells CS 80)).frozen? ⟨wr.heap.size, 11, none⟩ = false :=
        ⟨_, by rw [cell_of_row _ _ 11 CS 80 (0, 0) (heap_alloc_new wr _), Array.getElem?_eq_getElem (by have := HCS2.out; omega)], frozen_of_row _ _ 11 CS 80 (heap_alloc_new wr _)⟩
      clear x0
      go_wp2_with (with_reducible refine wp_build0 rfl 80 rfl CS HCS.out ?_)
      go_roundw
      case rel => exact ⟨k + 1, by omega, by go_num, HS⟩
      case measure => simp [intOf]; omega
    · obtain rfl : n0 = k := by omega
      go_wp2
      obtain ⟨u1, rfl⟩ : ∃ u1, u1 = wr := ⟨_, rfl⟩
      have K1 := Lib.hid HF.out.kept
      have R0 : Hid (Rc u1 u1.heap.size n1 r (bs.getD r false) (ts.getD r 0) 0 (u1.alloc (.cells CR.toArray 115))) := Lib.hid ⟨⟨CR, Blk.new _ _ _, LR.out, fun h => by rw [if_neg (fun c => absurd c.1 (by omega))]; exact ZR.out r h⟩, (Kept.refl _).alloc _, rfl⟩
      go_loopw [51, 15] (fun t1 _ wr => ∃ k : Nat, k ≤ n1 ∧ t1 = .int .i64 (k : Int) ∧ Hid (Rc u1 u1.heap.size n1 r (bs.getD r false) (ts.getD r 0) k wr)) (fun t1 _ _ => n1 - (intOf t1).toNat)
      case atStart => exact ⟨0, by omega, rfl, R0⟩
      case round =>
        obtain ⟨k, hk, rfl, HC⟩ := hrel
        clear R0
        by_cases hlt : k < n1
        · have hki : (k : Int) < (n1 : Int) := by omega
          obtain ⟨b, off, rfl, x0⟩ := at_ H1.out false hlt
          obtain ⟨b2, off2, rfl, z0⟩ := at_ H2.out 0 hlt
          have x1 := HC.out.kept.cell (K1.out.cell x0)
          have z1 := HC.out.kept.cell (K1.out.cell z0)
          obtain ⟨ht0, ht1⟩ := HTS.out k
          have HMK := Lib.hid (fun W => make (ts.getD k 0) ht0 ht1 W)
          have HY := Lib.hid (fun W (hW : Kept wr W) (hx : bs.getD k false = true) => HC.out.yes hlt hW (y := ts.getD k 0) (fun e => by rw [e]; exact ⟨rfl, hx⟩))
          have HN := Lib.hid (fun (hx : bs.getD k false = false) => HC.out.no (fun e => by rw [e]; exact hx))
          have HK := Lib.hid HC.out.kept
          have HB : Hid (∀ W, Kept wr W → ∃ v, W.cell? ⟨u1.heap.size, k * 15 + 10, none⟩ = some v ∧ W.frozen? ⟨u1.heap.size, k * 15 + 10, none⟩ = false) := Lib.hid (fun W hW => by
            obtain ⟨cs, hb, hl, _⟩ := HC.out.blk
            exact ⟨_, by rw [(hb.kept hW).cell, List.getElem?_eq_getElem (by omega)], (hb.kept hW).free _⟩)
          clear x0 z0 ht0 ht1 HC
          generalize bs.getD k false = bk at *
          generalize ts.getD k 0 = tk at *
          cases bk
          · have HN2 := Lib.hid (HN.out rfl)
            clear HN HY HB HMK
            go_wp2
            go_roundw
            case rel => exact ⟨k + 1, by omega, by go_num, HN2⟩
            case measure => simp [intOf]; omega
          · go_wp2_with fail
            refine (HMK.out _).mono ?_
            rintro e w5 ⟨rfl, k5⟩
            have HY2 := Lib.hid (HY.out _ k5 (by trivial))
            obtain ⟨v, y1, y2⟩ := HB.out _ k5
            clear k5 HB HY HN HMK
            go_wp2_with fail
            go_roundw
            case rel => exact ⟨k + 1, by omega, by go_num, HY2⟩
            case measure => simp [intOf]; omega
        · obtain rfl : n1 = k := by omega
          go_wp2
          obtain ⟨u2, rfl⟩ : ∃ u2, u2 = wr := ⟨_, rfl⟩
          have K2 := Lib.hid (K1.out.trans HC.out.kept)
          have M0 : Hid (Sm u2 u2.heap.size n3 (is.getD 0 false) (rs.getD 0 0) 0 (u2.alloc (.cells CM.toArray 126))) := Lib.hid ⟨⟨CM, Blk.new _ _ _, LM.out⟩, (Kept.refl _).alloc _, rfl, fun h => absurd h (by omega), fun h => absurd h (by omega)⟩
          go_loopw [73, 17] (fun t1 _ wr => ∃ k : Nat, k ≤ n3 ∧ t1 = .int .i64 (k : Int) ∧ Hid (Sm u2 u2.heap.size n3 (is.getD 0 false) (rs.getD 0 0) k wr)) (fun t1 _ _ => n3 - (intOf t1).toNat)
          case atStart => exact ⟨0, by omega, rfl, M0⟩
          case round =>
            obtain ⟨k, hk, rfl, HM⟩ := hrel
            clear M0
            by_cases hlt : k < n3
            · have hki : (k : Int) < (n3 : Int) := by omega
              obtain ⟨b, off, rfl, x0⟩ := at_ H3.out false hlt
              obtain ⟨b2, off2, rfl, z0⟩ := at_ H4.out 0 hlt
              have x1 := HM.out.kept.cell (K2.out.cell x0)
              have z1 := HM.out.kept.cell (K2.out.cell z0)
              have hsz : u2.heap.size < wr.heap.size := by obtain ⟨cs, hb, _⟩ := HM.out.blk; exact hb.lt
              have HB : Hid (∀ o : Obj, ∃ v, (wr.alloc o).cell? ⟨u2.heap.size, k * 2, none⟩ = some v ∧ (wr.alloc o).frozen? ⟨u2.heap.size, k * 2, none⟩ = false) := Lib.hid (fun o => by
                obtain ⟨cs, hb, hl⟩ := HM.out.blk
                exact ⟨_, by rw [(hb.alloc o).cell, List.getElem?_eq_getElem (by omega)], (hb.alloc o).free _⟩)
              have hY : is.getD k false = true → Sm u2 u2.heap.size n3 (is.getD 0 false) (rs.getD 0 0) (k + 1) ((wr.setCell ⟨u2.heap.size, k * 2, none⟩ (.iface 117 (.pointer (some ⟨wr.heap.size, 0, none⟩)))).alloc (.cells #[.pointer none, .pointer none, .pointer none, .int .u32 0, .int .u32 0, .int .u32 (rs.getD k 0), .bool false] 122)) := fun hx => by
                rw [← World.setCell_alloc_past _ _ _ _ hsz]
                refine HM.out.step hlt _ 122 117 (fun e _ => ⟨rfl, by subst e; rfl⟩) (fun e h0 => by subst e; rw [hx] at h0; cases h0)
              have hN : is.getD k false = false → Sm u2 u2.heap.size n3 (is.getD 0 false) (rs.getD 0 0) (k + 1) ((wr.setCell ⟨u2.heap.size, k * 2, none⟩ (.iface 127 (.pointer (some ⟨wr.heap.size, 0, none⟩)))).alloc (.cells CE 129)) := fun hx => by
                rw [← World.setCell_alloc_past _ _ _ _ hsz]
                refine HM.out.step hlt _ 129 127 (fun e h0 => by subst e; rw [hx] at h0; cases h0) (fun _ _ => rfl)
              have HY := Lib.hid hY
              have HN := Lib.hid hN
              clear x0 z0 HM hY hN
              generalize is.getD k false = ik at *
              generalize rs.getD k 0 = rk at *
              cases ik
              · have HN2 := Lib.hid (HN.out rfl)
                obtain ⟨v, y1, y2⟩ := HB.out (.cells CE 129)
                clear HN HY HB
                go_wp2_with (with_reducible refine wp_build0 rfl 129 rfl CE HCE.out ?_)
                go_roundw
                case rel => exact ⟨k + 1, by omega, by go_num, HN2⟩
                case measure => simp [intOf]; omega
              · have HY2 := Lib.hid (HY.out rfl)
                obtain ⟨v, y1, y2⟩ := HB.out (.cells #[.pointer none, .pointer none, .pointer none, .int .u32 0, .int .u32 0, .int .u32 rk, .bool false] 122)
                clear HN HY HB
                go_wp2_with fail
                go_roundw
                case rel => exact ⟨k + 1, by omega, by go_num, HY2⟩
                case measure => simp [intOf]; omega
            · obtain rfl : n3 = k := by omega
              obtain ⟨res, hres⟩ : ∃ res, inc zs bs ts n3 is rs = res := ⟨_, rfl⟩
              have he := (fin w u1 u2 wr w.heap.size u1.heap.size u2.heap.size n0 n1 n3 r t zs bs ts is rs HF.out HC.out HM.out CL CS HCL2.out HCS2.out HR.out HT.out hn0 hn3 HTS.out HRS.out HBS.out HIS.out)
              unfold partV at he
              rw [hres] at he
              have HRES := Lib.hid hres
              clear hres
              have HE := Lib.hid he
              clear he
              obtain ⟨v2, y3, y4⟩ : ∃ v2, (wr.alloc (Obj.cells CL 155)).cell? ⟨wr.heap.size, 10, none⟩ = some v2 ∧ (wr.alloc (Obj.cells CL 155)).frozen? ⟨wr.heap.size, 10, none⟩ = false :=
                ⟨_, by rw [cell_of_row _ _ 10 CL 155 (0, 0) (heap_alloc_new wr _), Array.getElem?_eq_getElem (by have := HCL2.out; omega)], frozen_of_row _ _ 10 CL 155 (heap_alloc_new wr _)⟩
              obtain ⟨v5, y5, y6⟩ : ∃ v5, ((wr.alloc (Obj.cells (CL.setIfInBounds 10 (.slice (some ⟨w.heap.size, 0, none⟩) n0 n0)) 155)).alloc (Obj.cells CS 80)).cell? ⟨wr.heap.size + 1, 35, none⟩ = some v5 ∧ ((wr.alloc (Obj.cells (CL.setIfInBounds 10 (.slice (some ⟨w.heap.size, 0, none⟩) n0 n0)) 155)).alloc (Obj.cells CS 80)).frozen? ⟨wr.heap.size + 1, 35, none⟩ = false := by
                have h2 := heap_alloc2_new wr (Obj.cells (CL.setIfInBounds 10 (.slice (some ⟨w.heap.size, 0, none⟩) n0 n0)) 155) (Obj.cells CS 80)
                exact ⟨_, by rw [cell_of_row _ _ 35 CS 80 (0, 0) h2, Array.getElem?_eq_getElem (by have := HCS2.out; omega)], frozen_of_row _ _ 35 CS 80 h2⟩
              clear HF HC HM
              go_wp2_with (first | (with_reducible refine wp_build0 rfl 80 rfl CS HCS.out ?_) | (with_reducible refine wp_build0 rfl 155 rfl CL HCL.out ?_))
              refine (HE.out).mono ?_
              rintro e w9 ⟨rfl, k9⟩
              have K9 := Lib.hid (K2.out.trans k9)
              clear k9 HE
              go_wp2
              go_ret
              exact ⟨by rw [HRES.out]; rfl, K9.out⟩
end Go.Proofs.Ytlpgghdimjmkiab.sip
