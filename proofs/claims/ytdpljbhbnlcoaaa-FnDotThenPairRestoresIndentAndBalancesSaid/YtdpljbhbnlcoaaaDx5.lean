/-
  The maker, the comparison with a text and the bracket check of n011_220 over this seat's program.
  Conditions: the bracket check at texts without quotes whose brackets match.
-/
import Derived.Test.YtdpljbhbnlcoaaaDx4
import Derived.Test.YtdpljbhbnlcoaaaAg3
import Derived.Deep.DeepCutAuto
import Derived.RegionTactic
namespace Go.Proofs.Ytdpljbhbnlcoaaa.dx
open Go.ChangeShapes Go.WideShapes Go.ChangeAt Go.RowKit
open kit pr

/-- the bytes of a text in memory: room to its capacity -/
theorem ownBytes (w : World) (s : ByteArray) : OwnX (Lib.bytesWorld w 5 s) w.heap.size (grownCap w s.size 0 5) (bytesOf s) := by
  have hat := Lib.bytesWorld_at_new w 5 s
  have hge := grownCap_ge w s.size 0 5
  have hcs : (Lib.bytesCells w 5 s).size = grownCap w s.size 0 5 := by
    have : s.data.size = s.size := rfl
    simp [Lib.bytesCells, this]
    omega
  refine ⟨by rw [Lib.bytesWorld_size]; omega, by rw [bytesOf_length]; exact hge, fun j hj => ⟨?_, ?_⟩, fun j hj => ?_⟩
  · simp only [World.cell?, hat]
    rw [Array.getElem?_eq_getElem (by omega)]; rfl
  · simp only [World.frozen?, hat, hcs]
    simp; omega
  · rw [bytesOf_length] at hj
    rw [Lib.bytesWorld_cell w 5 s j hj]
    have hj2 : j < s.data.size := hj
    have e3 : s.data[j]? = some s.data[j] := Array.getElem?_eq_getElem hj2
    simp [bytesOf, List.getD, e3]
theorem bytesKept (w : World) (s : ByteArray) : Kept w (Lib.bytesWorld w 5 s) := ag.bytesKept w s
set_option maxRecDepth 100000 in
set_option maxHeartbeats 4000000 in
theorem newQ (w : World) (s : ByteArray) (na mw : Bool) (ind : Int) (hs : s.size ≤ 1048576) :
    Calls Try.prog 14 #[.string s, .bool false, .bool na, .bool false, .bool mw, .bool false, .int .i64 ind] w fun e w' => ∃ g, e = .returned (.pointer (some ⟨g, 0, none⟩)) ∧ Q w w' g na mw ind (bytesOf s) := by
  have hcv : ∀ W : World, (convert 9 22 (.string s)).run Try.prog W = .ok (.slice (some ⟨W.heap.size, 0, none⟩) s.size (grownCap W s.size 0 5)) (Lib.bytesWorld W 5 s) := fun W => Lib.run_convert_string_bytes W 9 22 5 s Try.underlying9 Try.underlying22 Try.underlying5
  have hO := Lib.hid (ownBytes w s)
  have hK := Lib.hid (bytesKept w s)
  have hZ : Hid ((Lib.bytesWorld w 5 s).heap.size = w.heap.size + 1) := Lib.hid (Lib.bytesWorld_size w 5 s)
  have hsz := hcv w
  clear hcv
  generalize Lib.bytesWorld w 5 s = wb at *
  generalize grownCap w s.size 0 5 = C at *
  have HSZ := Lib.hid (bytesOf_length s)
  generalize hn : s.size = n at *
  generalize hq : w.heap.size = q at *
  have HQ := Lib.hid hq
  clear hn hq
  obtain ⟨CS, hCS, e9⟩ : ∃ CS : Array Value, Try.prog.built 86 [(9, .slice (some ⟨q, 0, none⟩) n C), (15, .int .i64 (-1)), (16, .int .i64 (-1)), (17, .int .i64 (-1)), (18, .int .i64 (-1)), (20, .int .i64 (-1)), (21, .int .i64 (-1)), (22, .int .i64 (-1)), (23, .int .i64 (-1))] = some CS ∧ (CS[9]?, CS[24]?, CS[25]?, CS[26]?, CS[28]?, CS[30]?, CS[59]?) = (some (.slice (some ⟨q, 0, none⟩) n C), some (.int .u64 0), some (.int .i64 0), some (.int .i64 0), some (.bool false), some (.bool false), some (.bool false)) := Option.map_eq_some_iff.1 (show (Try.prog.built 86 [(9, .slice (some ⟨q, 0, none⟩) n C), (15, .int .i64 (-1)), (16, .int .i64 (-1)), (17, .int .i64 (-1)), (18, .int .i64 (-1)), (20, .int .i64 (-1)), (21, .int .i64 (-1)), (22, .int .i64 (-1)), (23, .int .i64 (-1))]).map (fun CS => (CS[9]?, CS[24]?, CS[25]?, CS[26]?, CS[28]?, CS[30]?, CS[59]?)) = some (some (.slice (some ⟨q, 0, none⟩) n C), some (.int .u64 0), some (.int .i64 0), some (.int .i64 0), some (.bool false), some (.bool false), some (.bool false)) by kernel_rfl)
  have HCS := Lib.hid hCS
  have E9 := Lib.hid e9
  clear hCS e9
  cases na
  · go_enter Try.func14, Try.ntmps14
    go_upto_region 2 with (refine ag.wpList_build1 rfl 86 _ rfl [(9, .slice (some ⟨q, 0, none⟩) n C), (15, .int .i64 (-1)), (16, .int .i64 (-1)), (17, .int .i64 (-1)), (18, .int .i64 (-1)), (20, .int .i64 (-1)), (21, .int .i64 (-1)), (22, .int .i64 (-1)), (23, .int .i64 (-1))] ?hL CS HCS.out ?_)
    have BG : Hid (Blk (wb.alloc (.cells CS 86)) wb.heap.size 86 CS.toList) := Lib.hid (by have h := Blk.new wb 86 CS.toList; simpa using h)
    have KG : Hid (Kept w (wb.alloc (.cells CS 86))) := Lib.hid (hK.out.alloc _)
    have OG : Hid (OwnX (wb.alloc (.cells CS 86)) q C (bytesOf s)) := Lib.hid (hO.out.same (((Kept.refl wb).alloc _).block q hO.out.lt))
    generalize wb.alloc (.cells CS 86) = wc at *
    have HG : Hid (wb.heap.size = q + 1) := hZ
    generalize wb.heap.size = g at *
    obtain ⟨v9, v24, v25, v26, v28, v30, v59⟩ : CS.toList[9]? = some (.slice (some ⟨q, 0, none⟩) n C) ∧ CS.toList[24]? = some (.int .u64 0) ∧ CS.toList[25]? = some (.int .i64 0) ∧ CS.toList[26]? = some (.int .i64 0) ∧ CS.toList[28]? = some (.bool false) ∧ CS.toList[30]? = some (.bool false) ∧ CS.toList[59]? = some (.bool false) := by
      have h := E9.out
      simp only [Prod.mk.injEq] at h
      simpa using h
    have c24 := (BG.out.cell 24).trans v24
    have c25 := (BG.out.cell 25).trans v25
    have c28 := (BG.out.cell 28).trans v28
    have c30 := (BG.out.cell 30).trans v30
    have f24 := BG.out.free 24
    have f25 := BG.out.free 25
    have f28 := BG.out.free 28
    have f30 := BG.out.free 30
    have hfin : Hid (Q w ((((wc.setCell ⟨g, 24, none⟩ (.int .u64 0)).setCell ⟨g, 28, none⟩ (.bool mw)).setCell ⟨g, 30, none⟩ (.bool false)).setCell ⟨g, 25, none⟩ (.int .i64 ind)) g false mw ind (bytesOf s)) := by
      have l24 : 24 < CS.toList.length := (List.getElem?_eq_some_iff.1 v24).1
      have l25 : 25 < CS.toList.length := (List.getElem?_eq_some_iff.1 v25).1
      have l28 : 28 < CS.toList.length := (List.getElem?_eq_some_iff.1 v28).1
      have hgq : q ≠ g := by have := HG.out; omega
      have hq2 := HQ.out
      have hg2 := HG.out
      have far : ∀ (V : World) (j : Nat) (u : Value), OwnX V q C (bytesOf s) → OwnX (V.setCell ⟨g, j, none⟩ u) q C (bytesOf s) := fun V j u h => h.same (Below.heap_setCell V ⟨g, j, none⟩ u q hgq)
      have hl : w.heap.size ≤ g := by omega
      refine Lib.hid ⟨⟨_, q, C, (((BG.out.set 24 _).set 28 _).set 30 _).set 25 _, ?_, ?_, ?_, ?_, ?_, ?_, far _ _ _ (far _ _ _ (far _ _ _ (far _ _ _ OG.out))), by omega, hgq⟩, hl, (((KG.out.setCell hl _).setCell hl _).setCell hl _).setCell hl _⟩
      · rw [List.getElem?_set_ne (by decide), List.getElem?_set_ne (by decide), List.getElem?_set_ne (by decide), List.getElem?_set_ne (by decide), HSZ.out]; exact v9
      · rw [List.getElem?_set_ne (by decide), List.getElem?_set_ne (by decide), List.getElem?_set_ne (by decide), List.getElem?_set_self l24]; rfl
      · rw [List.getElem?_set_self (by simpa using l25)]
      · rw [List.getElem?_set_ne (by decide), List.getElem?_set_ne (by decide), List.getElem?_set_ne (by decide), List.getElem?_set_ne (by decide)]; exact v26
      · rw [List.getElem?_set_ne (by decide), List.getElem?_set_ne (by decide), List.getElem?_set_self (by simpa using l28)]
      · rw [List.getElem?_set_ne (by decide), List.getElem?_set_ne (by decide), List.getElem?_set_ne (by decide), List.getElem?_set_ne (by decide)]; exact v59
    clear v9 v24 v25 v26 v28 v30 v59
    go_wp2_with fail
    go_ret
    exact ⟨g, rfl, hfin.out⟩
  · go_enter Try.func14, Try.ntmps14
    go_upto_region 2 with (refine ag.wpList_build1 rfl 86 _ rfl [(9, .slice (some ⟨q, 0, none⟩) n C), (15, .int .i64 (-1)), (16, .int .i64 (-1)), (17, .int .i64 (-1)), (18, .int .i64 (-1)), (20, .int .i64 (-1)), (21, .int .i64 (-1)), (22, .int .i64 (-1)), (23, .int .i64 (-1))] ?hL2 CS HCS.out ?_)
    have BG : Hid (Blk (wb.alloc (.cells CS 86)) wb.heap.size 86 CS.toList) := Lib.hid (by have h := Blk.new wb 86 CS.toList; simpa using h)
    have KG : Hid (Kept w (wb.alloc (.cells CS 86))) := Lib.hid (hK.out.alloc _)
    have OG : Hid (OwnX (wb.alloc (.cells CS 86)) q C (bytesOf s)) := Lib.hid (hO.out.same (((Kept.refl wb).alloc _).block q hO.out.lt))
    generalize wb.alloc (.cells CS 86) = wc at *
    have HG : Hid (wb.heap.size = q + 1) := hZ
    generalize wb.heap.size = g at *
    obtain ⟨v9, v24, v25, v26, v28, v30, v59⟩ : CS.toList[9]? = some (.slice (some ⟨q, 0, none⟩) n C) ∧ CS.toList[24]? = some (.int .u64 0) ∧ CS.toList[25]? = some (.int .i64 0) ∧ CS.toList[26]? = some (.int .i64 0) ∧ CS.toList[28]? = some (.bool false) ∧ CS.toList[30]? = some (.bool false) ∧ CS.toList[59]? = some (.bool false) := by
      have h := E9.out
      simp only [Prod.mk.injEq] at h
      simpa using h
    have c24 := (BG.out.cell 24).trans v24
    have c25 := (BG.out.cell 25).trans v25
    have c28 := (BG.out.cell 28).trans v28
    have c30 := (BG.out.cell 30).trans v30
    have f24 := BG.out.free 24
    have f25 := BG.out.free 25
    have f28 := BG.out.free 28
    have f30 := BG.out.free 30
    have hfin : Hid (Q w ((((wc.setCell ⟨g, 24, none⟩ (.int .u64 4)).setCell ⟨g, 28, none⟩ (.bool mw)).setCell ⟨g, 30, none⟩ (.bool false)).setCell ⟨g, 25, none⟩ (.int .i64 ind)) g true mw ind (bytesOf s)) := by
      have l24 : 24 < CS.toList.length := (List.getElem?_eq_some_iff.1 v24).1
      have l25 : 25 < CS.toList.length := (List.getElem?_eq_some_iff.1 v25).1
      have l28 : 28 < CS.toList.length := (List.getElem?_eq_some_iff.1 v28).1
      have hgq : q ≠ g := by have := HG.out; omega
      have hq2 := HQ.out
      have hg2 := HG.out
      have far : ∀ (V : World) (j : Nat) (u : Value), OwnX V q C (bytesOf s) → OwnX (V.setCell ⟨g, j, none⟩ u) q C (bytesOf s) := fun V j u h => h.same (Below.heap_setCell V ⟨g, j, none⟩ u q hgq)
      have hl : w.heap.size ≤ g := by omega
      refine Lib.hid ⟨⟨_, q, C, (((BG.out.set 24 _).set 28 _).set 30 _).set 25 _, ?_, ?_, ?_, ?_, ?_, ?_, far _ _ _ (far _ _ _ (far _ _ _ (far _ _ _ OG.out))), by omega, hgq⟩, hl, (((KG.out.setCell hl _).setCell hl _).setCell hl _).setCell hl _⟩
      · rw [List.getElem?_set_ne (by decide), List.getElem?_set_ne (by decide), List.getElem?_set_ne (by decide), List.getElem?_set_ne (by decide), HSZ.out]; exact v9
      · rw [List.getElem?_set_ne (by decide), List.getElem?_set_ne (by decide), List.getElem?_set_ne (by decide), List.getElem?_set_self l24]; rfl
      · rw [List.getElem?_set_self (by simpa using l25)]
      · rw [List.getElem?_set_ne (by decide), List.getElem?_set_ne (by decide), List.getElem?_set_ne (by decide), List.getElem?_set_ne (by decide)]; exact v26
      · rw [List.getElem?_set_ne (by decide), List.getElem?_set_ne (by decide), List.getElem?_set_self (by simpa using l28)]
      · rw [List.getElem?_set_ne (by decide), List.getElem?_set_ne (by decide), List.getElem?_set_ne (by decide), List.getElem?_set_ne (by decide)]; exact v59
    clear v9 v24 v25 v26 v28 v30 v59
    go_wp2_with fail
    go_ret
    exact ⟨g, rfl, hfin.out⟩
end Go.Proofs.Ytdpljbhbnlcoaaa.dx
