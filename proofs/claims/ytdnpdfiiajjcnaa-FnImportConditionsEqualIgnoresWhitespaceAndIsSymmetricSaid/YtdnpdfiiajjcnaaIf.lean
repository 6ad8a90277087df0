/-
  Equality of condition lists over this seat's program.
  Conditions: the lists lie in memory as the builder lays them.
-/
import Derived.Test.YtdnpdfiiajjcnaaIe
namespace Go.Proofs.Ytdnpdfiiajjcnaa.ic
open Go.ChangeShapes Go.WideShapes Go.ChangeAt Go.RowKit
open kit

def T13 (w : World) (n : Nat) (F G : Ct) (t5 : Value) (W : World) : Prop := ∃ k : Nat, k ≤ n ∧ t5 = .int .i64 (k : Int) ∧ Kept w W ∧ Hid (∀ i, i < k → key (at_ F i) = key (at_ G i))
theorem keys_ext {F G : Ct} (hl : F.length = G.length) (h : ∀ i, i < F.length → key (at_ F i) = key (at_ G i)) : keys F = keys G := by
  unfold keys
  apply List.ext_getElem
  · simpa using hl
  · intro i h1 h2
    have h1' : i < F.length := by simpa using h1
    have h2' : i < G.length := by simpa using h2
    have := h i h1'
    unfold at_ at this
    rw [List.getD_eq_getElem?_getD, List.getD_eq_getElem?_getD, List.getElem?_eq_getElem h1', List.getElem?_eq_getElem h2'] at this
    simpa using this
theorem keys_ne {F G : Ct} {i : Nat} (h1 : i < F.length) (h2 : i < G.length) (h : key (at_ F i) ≠ key (at_ G i)) : keys F ≠ keys G := fun e => h (by
  have := congrArg (fun l => l[i]?) e
  unfold keys at this
  simp only [List.getElem?_map, List.getElem?_eq_getElem h1, List.getElem?_eq_getElem h2, Option.map_some, Option.some.injEq] at this
  unfold at_
  rw [List.getD_eq_getElem?_getD, List.getD_eq_getElem?_getD, List.getElem?_eq_getElem h1, List.getElem?_eq_getElem h2]
  simpa using this)
theorem keys_len {F G : Ct} (h : F.length ≠ G.length) : keys F ≠ keys G := fun e => h (by
  have := congrArg List.length e
  simpa [keys] using this)
theorem same_of {F G : Ct} (h : keys F = keys G) : same F G = true := by unfold same; exact decide_eq_true h
theorem same_not {F G : Ct} (h : keys F ≠ keys G) : same F G = false := by unfold same; exact decide_eq_false h
theorem sameL_of {s t : List ByteArray} (h : sameL s t = true) : lits s = lits t := by unfold sameL at h; exact of_decide_eq_true h
theorem sameL_not {s t : List ByteArray} (h : sameL s t = false) : lits s ≠ lits t := by unfold sameL at h; exact of_decide_eq_false h
set_option maxRecDepth 100000 in
set_option maxHeartbeats 8000000 in
theorem condsEq (v1 v2 : Value) (F G : Ct) (w : World) (h1 : Cd w v1 F) (h2 : Cd w v2 G) (hm : F.length ≤ 1048576) (hF : Lens F 1048576 F.length) : Calls Try.prog 13 #[v1, v2] w fun e w' => e = .returned (.bool (same F G)) ∧ Kept w w' := by
  obtain ⟨a1, c1, rfl, hc1, hc2, hz1⟩ := Sl.len h1
  obtain ⟨a2, c2, rfl, hd1, hd2, hz2⟩ := Sl.len h2
  by_cases hl : F.length = G.length
  · have HL := Lib.hid hl
    have H1 := Lib.hid h1
    have H2 := Lib.hid h2
    have HLE := Lib.hid hF
    have hl1 : ((F.length : Int) != (G.length : Int)) = false := by simp; omega
    have HS0 : Hid (T13 w F.length F G (.int .i64 0) w) := Lib.hid ⟨0, Nat.zero_le _, rfl, Kept.refl _, Lib.hid (fun i hi => absurd hi (by omega))⟩
    clear h1 h2 hl hF
    go_enter Try.func13, Try.ntmps13
    go_wp2_with fail
    go_loopw [5] (fun t5 W => T13 w F.length F G t5 W) (fun t5 _ => F.length - (intOf t5).toNat)
    case atStart => exact HS0.out
    case round =>
      obtain ⟨k, hk, rfl, hK, HP⟩ := hrel
      have HK := Lib.hid hK
      obtain ⟨wo, rfl⟩ : ∃ wo : World, wo = wr := ⟨_, rfl⟩
      clear hK HS0
      by_cases hlt : k < F.length
      · have hlt2 : k < G.length := by have := HL.out; omega
        obtain ⟨b1, o1, e1, _, t1, s1, x0, x1, x2, hT1, hS1⟩ := Sl.at_ (H1.out.kept HK.out) hlt
        obtain ⟨b2, o2, e2, _, t2, s2, y0, y1, y2, hT2, hS2⟩ := Sl.at_ (H2.out.kept HK.out) hlt2
        subst e1 e2
        obtain ⟨ta1, rfl, _⟩ := hT1.form
        obtain ⟨sa1, rfl, _⟩ := hS1.form
        obtain ⟨ta2, rfl, _⟩ := hT2.form
        obtain ⟨sa2, rfl, _⟩ := hS2.form
        have HT1 := Lib.hid hT1
        have HS1 := Lib.hid hS1
        have HT2 := Lib.hid hT2
        have HS2 := Lib.hid hS2
        have hln := (HLE.out k hlt).1
        have hsn := (HLE.out k hlt).2.2.1
        have k0 : (k : Int) < (F.length : Int) := by omega
        have k1 : (k : Int) < (G.length : Int) := by omega
        have HNE := Lib.hid (keys_ne hlt hlt2)
        have HP2 : Hid (lits (at_ F k).L = lits (at_ G k).L → lits (at_ F k).S = lits (at_ G k).S → ∀ i, i < k + 1 → key (at_ F i) = key (at_ G i)) := Lib.hid (fun q1 q2 i hi => by
          by_cases e : i = k
          · subst e; unfold key; rw [q1, q2]
          · exact HP.out i (by omega))
        clear hT1 hS1 hT2 hS2 hz1 hz2
        go_upto_region 7 with fail
        have HB1 : Hid (Blk (wo.alloc (.cells #[.slice none 0 0, .slice ta1 (at_ F k).L.length (at_ F k).L.length, .slice sa1 (at_ F k).S.length (at_ F k).S.length] 39)) wo.heap.size 39 [.slice none 0 0, .slice ta1 (at_ F k).L.length (at_ F k).L.length, .slice sa1 (at_ F k).S.length (at_ F k).S.length]) := Lib.hid (Blk.new wo 39 _)
        have KA := Lib.hid ((Kept.refl wo).alloc (.cells #[.slice none 0 0, .slice ta1 (at_ F k).L.length (at_ F k).L.length, .slice sa1 (at_ F k).S.length (at_ F k).S.length] 39))
        clear x0 x1 x2
        generalize wo.alloc (.cells #[.slice none 0 0, .slice ta1 (at_ F k).L.length (at_ F k).L.length, .slice sa1 (at_ F k).S.length (at_ F k).S.length] 39) = wa at *
        generalize wo.heap.size = p1 at *
        replace y0 := KA.out.cell y0
        replace y1 := KA.out.cell y1
        replace y2 := KA.out.cell y2
        go_upto_region 8 with fail
        have HB2 : Hid (Blk (wa.alloc (.cells #[.slice none 0 0, .slice ta2 (at_ G k).L.length (at_ G k).L.length, .slice sa2 (at_ G k).S.length (at_ G k).S.length] 39)) wa.heap.size 39 [.slice none 0 0, .slice ta2 (at_ G k).L.length (at_ G k).L.length, .slice sa2 (at_ G k).S.length (at_ G k).S.length]) := Lib.hid (Blk.new wa 39 _)
        have KB := Lib.hid (KA.out.alloc (.cells #[.slice none 0 0, .slice ta2 (at_ G k).L.length (at_ G k).L.length, .slice sa2 (at_ G k).S.length (at_ G k).S.length] 39))
        have HB1 := Lib.hid (HB1.out.alloc (.cells #[.slice none 0 0, .slice ta2 (at_ G k).L.length (at_ G k).L.length, .slice sa2 (at_ G k).S.length (at_ G k).S.length] 39))
        clear y0 y1 y2 KA
        generalize wa.alloc (.cells #[.slice none 0 0, .slice ta2 (at_ G k).L.length (at_ G k).L.length, .slice sa2 (at_ G k).S.length (at_ G k).S.length] 39) = wb at *
        generalize wa.heap.size = p2 at *
        have C1 := Lib.hid (fun W (kk : Kept wb W) => tokensEq _ _ _ _ W (HT1.out.kept (KB.out.trans kk)) (HT2.out.kept (KB.out.trans kk)) hln)
        have C2 := Lib.hid (fun W (kk : Kept wb W) => tokensEq _ _ _ _ W (HS1.out.kept (KB.out.trans kk)) (HS2.out.kept (KB.out.trans kk)) hsn)
        have x0 : wb.cell? ⟨p1, 0, none⟩ = some (.slice none 0 0) := HB1.out.cell 0
        have x1 : wb.cell? ⟨p1, 1, none⟩ = some (.slice ta1 (at_ F k).L.length (at_ F k).L.length) := HB1.out.cell 1
        have x2 : wb.cell? ⟨p1, 2, none⟩ = some (.slice sa1 (at_ F k).S.length (at_ F k).S.length) := HB1.out.cell 2
        have y0 : wb.cell? ⟨p2, 0, none⟩ = some (.slice none 0 0) := HB2.out.cell 0
        have y1 : wb.cell? ⟨p2, 1, none⟩ = some (.slice ta2 (at_ G k).L.length (at_ G k).L.length) := HB2.out.cell 1
        have y2 : wb.cell? ⟨p2, 2, none⟩ = some (.slice sa2 (at_ G k).S.length (at_ G k).S.length) := HB2.out.cell 2
        obtain ⟨bl, hbl⟩ : ∃ bl, bl = sameL (at_ F k).L (at_ G k).L := ⟨_, rfl⟩
        obtain ⟨bs, hbs⟩ : ∃ bs, bs = sameL (at_ F k).S (at_ G k).S := ⟨_, rfl⟩
        rw [← hbl] at C1
        rw [← hbs] at C2
        have HBL := Lib.hid hbl
        have HBS := Lib.hid hbs
        clear hbl hbs HB1 HB2 HT1 HT2 HS1 HS2
        go_wp2_with fail
        refine (C1.out wb (Kept.refl _)).mono ?_
        rintro e w1 ⟨rfl, k1_⟩
        have K1 := Lib.hid k1_
        clear k1_ x1 y1
        cases bl
        · have HR : Hid (same F G = false) := Lib.hid (same_not (HNE.out (fun e => sameL_not HBL.out.symm (congrArg Prod.fst e))))
          have HKX := Lib.hid (HK.out.trans (KB.out.trans K1.out))
          clear x0 x2 y0 y2
          go_wp2_with fail
          go_ret
          exact ⟨by rw [HR.out]; rfl, HKX.out⟩
        · replace x0 := K1.out.cell x0
          replace x2 := K1.out.cell x2
          replace y0 := K1.out.cell y0
          replace y2 := K1.out.cell y2
          go_wp2_with fail
          refine (C2.out w1 K1.out).mono ?_
          rintro e w2 ⟨rfl, k2_⟩
          have K2 := Lib.hid k2_
          clear k2_ x2 y2
          cases bs
          · have HR : Hid (same F G = false) := Lib.hid (same_not (HNE.out (fun e => sameL_not HBS.out.symm (congrArg Prod.snd e))))
            have HKX := Lib.hid (HK.out.trans (KB.out.trans (K1.out.trans K2.out)))
            clear x0 y0
            go_wp2_with fail
            go_ret
            exact ⟨by rw [HR.out]; rfl, HKX.out⟩
          · replace x0 := K2.out.cell x0
            replace y0 := K2.out.cell y0
            have HKX := Lib.hid (HK.out.trans (KB.out.trans (K1.out.trans K2.out)))
            have HP3 := Lib.hid (HP2.out (sameL_of HBL.out.symm) (sameL_of HBS.out.symm))
            go_wp2_with fail
            refine (mediaEq w2).mono ?_
            rintro e w3 ⟨rfl, rfl⟩
            clear x0 y0
            go_wp2_with fail
            go_roundw
            case rel => exact ⟨k + 1, by omega, by go_num, HKX.out, HP3⟩
            case measure => simp [intOf]; omega
      · obtain rfl : k = F.length := by omega
        have HR : Hid (same F G = true) := Lib.hid (same_of (keys_ext HL.out HP.out))
        go_wp2_with fail
        go_ret
        exact ⟨by rw [HR.out]; rfl, HK.out⟩
  · have HR : Hid (same F G = false) := Lib.hid (same_not (keys_len hl))
    have hl2 : ((F.length : Int) != (G.length : Int)) = true := by simp; omega
    clear h1 h2 hz1 hz2
    go_enter Try.func13, Try.ntmps13
    go_wp2_with fail
    go_ret
    exact ⟨by rw [HR.out]; rfl, Kept.refl _⟩
set_option maxRecDepth 100000 in
theorem zzEq (v1 v2 : Value) (F G : Ct) (w : World) (h1 : Cd w v1 F) (h2 : Cd w v2 G) (hm : F.length ≤ 1048576) (hF : Lens F 1048576 F.length) : Calls Try.prog 8 #[v1, v2] w fun e w' => e = .returned (.bool (same F G)) ∧ Kept w w' := by
  have HC := Lib.hid (condsEq v1 v2 F G w h1 h2 hm hF)
  clear h1 h2 hF
  go_enter Try.func8, Try.ntmps8
  go_wp2_with fail
  refine HC.out.mono ?_
  rintro e w2 ⟨rfl, k2⟩
  have K2 := Lib.hid k2
  clear k2
  go_wp2_with fail
  go_ret
  exact ⟨rfl, K2.out⟩
end Go.Proofs.Ytdnpdfiiajjcnaa.ic
