/-
  The walk of findImportedCSSFilesInJSOrder's visit over this seat's program.
  Conditions: the files lie in memory as Mem says.
-/
import Derived.Test.YtkogmgonceneeaaCv
import Derived.Deep.RegionLaw
namespace Go.Proofs.Ytkogmgonceneeaa.css
open Go.ChangeShapes Go.WideShapes Go.ChangeAt Go.RowKit
open kit dfs

theorem sizeP2 : (Try.prog.info? 152).map (·.size) = some 11 := by kernel_rfl
def VOut (wm : World) (bv bc bf bo mb cb : Nat) (F : Ct) (v : Nat) (s : St) (e : Ending) (w' : World) : Prop :=
  e = .returned (.tuple #[]) ∧ ∃ s2 t2, Run (T F) (C F) [v] s s2 ∧ Vs wm w' bv bc bf bo mb cb s2.d t2 s2.o
abbrev VArgs (bv bc bf bo v : Nat) : Array Value := #[.int .u32 (v : Int), .pointer (some ⟨bv, 0, none⟩), .pointer (some ⟨bc, 0, none⟩), .pointer (some ⟨bf, 0, none⟩), .pointer (some ⟨bo, 0, none⟩)]

section
variable (wm w : World) (bv bc bf bo mb cb LB n : Nat) (G : Nat → Rp) (F : Ct)

set_option maxRecDepth 100000 in
set_option maxHeartbeats 4000000 in
theorem visitDone (v : Nat) (s : St) (t : Value) (hv : v < n) (hn : n ≤ 131072) (hd : s.d v = true) (h : Vs wm w bv bc bf bo mb cb s.d t s.o) : Calls Try.prog 16 (VArgs bv bc bf bo v) w (VOut wm bv bc bf bo mb cb F v s) := by
  have c1 : w.cell? ⟨bv, 0, none⟩ = some (.map (some mb)) := h.vmap.cell 0
  obtain ⟨m, hm⟩ := h.map
  have hkey := key23 v (by omega)
  have hr : vis s.d (.int .u32 (v : Int)) = some (.bool true) := by rw [vis_at, if_pos hd]
  have HH := Lib.hid h
  have HD := Lib.hid hd
  clear h hd
  go_enter Try.func16, Try.ntmps16
  go_wp2_with (refine mapf.wpList_look (P := Try.prog) (w := w) rfl (.tmp 13) (.tmp 14) 205 false rfl K23 Try.underlying205 (z := .bool false) (by kernel_rfl) mb m (vis s.d) rfl hm (.int .u32 (v : Int)) _ rfl hkey (some (.bool true)) hr ?_)
  go_end0
  exact ⟨rfl, s, t, .skip HD.out .nil, HH.out⟩

def I16 (v : Nat) (s : St) (t37 : Value) (W : World) : Prop := ∃ (p : Nat) (s2 : St) (t2 : Value), p ≤ np F v ∧ t37 = .int .i64 (p : Int) ∧ Run (T F) (C F) (pre F v p 0) (s.mark v) s2 ∧ s2.o.length ≤ cnt s2.d n ∧ Vs wm W bv bc bf bo mb cb s2.d t2 s2.o
def J16 (v p : Nat) (s : St) (t44 : Value) (W : World) : Prop := ∃ (k : Nat) (s2 : St) (t2 : Value), k ≤ (imps F v p).length ∧ t44 = .int .i64 (k : Int) ∧ Run (T F) (C F) (pre F v p k) (s.mark v) s2 ∧ s2.o.length ≤ cnt s2.d n ∧ Vs wm W bv bc bf bo mb cb s2.d t2 s2.o

set_option maxRecDepth 100000 in
set_option maxHeartbeats 16000000 in
theorem visitS (v : Nat) (s : St) (t : Value) (hv : v < n) (hfit : Fits n F) (hol : s.o.length ≤ cnt s.d n) (hd : s.d v = false) (h32 : ∀ v, v < n → cssOf F v ≤ 4294967295) (hm : Mem wm cb LB n G F) (h : Vs wm w bv bc bf bo mb cb s.d t s.o)
    (ih : ∀ (W : World) (s2 : St) (t2 : Value) (u : Nat), (∀ x, s.d x = true → s2.d x = true) → s2.d v = true → s2.o.length ≤ cnt s2.d n → u < n → Vs wm W bv bc bf bo mb cb s2.d t2 s2.o → Calls Try.prog 16 (VArgs bv bc bf bo u) W (VOut wm bv bc bf bo mb cb F u s2)) :
    Calls Try.prog 16 (VArgs bv bc bf bo v) w (VOut wm bv bc bf bo mb cb F v s) := by
  have hn := hfit.top
  have c1 : w.cell? ⟨bv, 0, none⟩ = some (.map (some mb)) := h.vmap.cell 0
  obtain ⟨m, hmap⟩ := h.map
  have hkey := key23 v (by omega)
  have hr : vis s.d (.int .u32 (v : Int)) = none := by rw [vis_at, hd]; rfl
  have v0 : (0 : Int) ≤ (v : Int) := by omega
  have i1 : (v : Int) < (n : Int) := by omega
  have hnp := hfit.np v hv
  have tb : ∀ W : World, (Instr.typeAssert (.iface 153 (.pointer (some ⟨(G v).J, 0, none⟩))) 186 153 false).run Try.prog W = .ok (.pointer (some ⟨(G v).J, 0, none⟩)) W := fun W => by kernel_rfl
  have HH := Lib.hid h
  have HD := Lib.hid hd
  have HM := Lib.hid hm
  have HFit := Lib.hid hfit
  have HOL := Lib.hid hol
  have HTin : Hid (∀ v, v < n → ∀ t ∈ T F v, t < n) := Lib.hid (fun v hv t ht => tgts_in hfit hv ht)
  have HIH := Lib.hid ih
  have H32 := Lib.hid h32
  obtain ⟨i0, hi, hz0, hz1, hz2⟩ := info_parts info23
  clear h hd hm hfit hol ih h32
  go_enter Try.func16, Try.ntmps16
  go_upto_region 1 with (refine mapf.wpList_look (P := Try.prog) (w := w) rfl (.tmp 13) (.tmp 14) 205 false rfl K23 Try.underlying205 (z := .bool false) (by kernel_rfl) mb m (vis s.d) rfl hmap (.int .u32 (v : Int)) _ rfl hkey none hr ?_)
  go_upto_region 2 with (refine mapf.wpList_put (P := Try.prog) (w := w) rfl (.tmp 16) (.tmp 17) _ 205 rfl K23 Try.underlying205 mb m (vis s.d) rfl hmap (.int .u32 (v : Int)) _ rfl hkey (.bool true) rfl ?_; intro w1 hw1 hmap1)
  obtain ⟨ob, hw1⟩ := hw1
  have h1 := HH.out.put hw1 hmap1
  have H1 := Lib.hid h1
  clear hw1 hmap1 hmap h1 c1 hkey hr HH
  have c1 : w1.cell? ⟨bc, 0, none⟩ = some (.pointer (some ⟨cb, 0, none⟩)) := H1.out.vctx.cell 0
  have HM1 := Lib.hid (HM.out.kept H1.out.kept)
  obtain ⟨cs1, b1, e1⟩ := HM1.out.ctx
  have c2 : w1.cell? ⟨cb, 10, none⟩ = some (.slice (some ⟨LB, 0, none⟩) n n) := by rw [b1.cell]; exact e1
  obtain ⟨cs2, b2, e2⟩ := HM1.out.files
  have c3 : w1.cell? ⟨LB, v * 24 + 2, none⟩ = some (.iface 153 (.pointer (some ⟨(G v).J, 0, none⟩))) := by rw [b2.cell]; exact e2 v hv
  obtain ⟨cs3, b3, e3, _, _⟩ := (HM1.out.one v hv).repr
  have c4 : w1.cell? ⟨(G v).J, 20, none⟩ = some (.slice (some ⟨(G v).P, 0, none⟩) (np F v) (np F v)) := by rw [b3.cell]; exact e3
  have HI0 : Hid (I16 wm bv bc bf bo mb cb n F v s (.int .i64 0) w1) := Lib.hid ⟨0, s.mark v, t, Nat.zero_le _, rfl, by rw [pre_zero]; exact .nil, Nat.le_trans HOL.out (cnt_mono fun x hx => upd_up hx), H1.out⟩
  clear b1 e1 b2 e2 b3 e3 H1 HM1
  go_wp2_with fail
  clear c1 c2 c3 c4
  go_loopw [37] (fun t37 W => I16 wm bv bc bf bo mb cb n F v s t37 W) (fun t37 _ => np F v - (intOf t37).toNat)
  case atStart => exact HI0.out
  case round =>
    obtain ⟨p, s2, t2, hp, rfl, hR, hC, hV⟩ := hrel
    have HC := Lib.hid hC
    clear hC
    have HR := Lib.hid hR
    have HV := Lib.hid hV
    clear hR hV HI0
    have HMr := Lib.hid (HM.out.kept HV.out.kept)
    have HO := Lib.hid (HMr.out.one v hv)
    by_cases hlt : p < np F v
    · obtain ⟨cs, hl, hr, ho, h2⟩ := HO.out.whole hlt
      have hsz : (Try.prog.info? 152).map (·.size) = some cs.length := by rw [hl]; exact sizeP2
      have j0 : (p : Int) < (np F v : Int) := by omega
      have hpl := HFit.out.nd v hv p hlt
      go_upto_region 7 with (first | (with_reducible refine wpList_load_mid rfl 152 (.tmp 39) rfl (G v).P (p * 11) rfl cs _ hr Try.underlying152 rfl hsz ?_) | (with_reducible refine wpList_store_mid rfl 152 (.tmp 9) (.tmp 40) rfl _ 0 cs.toArray rfl rfl (there_new _ _ _ _ (by simp [hl])) (by simpa using hsz) ho ?_))
      have hbx := boxed wr 152 #[.slice none 0 0, .slice none 0 0, .slice none 0 0, .slice none 0 0, .map none, .map none, .map none, .slice none 0 0, .bool false, .bool false, .bool false] cs (by simp [hl])
      generalize (wr.alloc (.cells #[.slice none 0 0, .slice none 0 0, .slice none 0 0, .slice none 0 0, .map none, .map none, .map none, .slice none 0 0, .bool false, .bool false, .bool false] 152)).setCells wr.heap.size 0 cs = w3 at *
      have K3 := Lib.hid hbx.1
      have b2 := hbx.2 2 _ h2
      clear hbx hl hr ho h2 hsz
      generalize wr.heap.size = q at *
      rw [show plen F v p = (imps F v p).length from rfl] at b2
      have HJ0 : Hid (J16 wm bv bc bf bo mb cb n F v p s (.int .i64 0) w3) := Lib.hid ⟨0, s2, t2, Nat.zero_le _, rfl, HR.out, HC.out, HV.out.kept2 K3.out⟩
      clear HC HR HV HMr HO K3
      go_wp2_with fail
      clear b2
      go_loopw [44] (fun t44 W => J16 wm bv bc bf bo mb cb n F v p s t44 W) (fun t44 _ => (imps F v p).length - (intOf t44).toNat)
      case atStart => exact HJ0.out
      case round =>
        obtain ⟨k, s3, t3, hk, rfl, hR, hC, hV⟩ := hrel
        have HC := Lib.hid hC
        clear hC
        have HR := Lib.hid hR
        have HV := Lib.hid hV
        clear hR hV HJ0
        by_cases hlt2 : k < (imps F v p).length
        · have HMr := Lib.hid (HM.out.kept HV.out.kept)
          have HO := Lib.hid (HMr.out.one v hv)
          obtain ⟨m2, g, c5, f1, hmR, et, f2⟩ := HO.out.rec_ hlt hlt2
          obtain ⟨cs3, b3, _, e35, _⟩ := HO.out.repr
          have f3 : wr.cell? ⟨(G v).J, 35, none⟩ = some (.slice (some ⟨g, 0, none⟩) (G v).R.length c5) := by rw [b3.cell, e35, et]
          have k0 : (k : Int) < ((imps F v p).length : Int) := by omega
          have k1 : (m2 : Int) < ((G v).R.length : Int) := by omega
          have k2 : (0 : Int) ≤ (m2 : Int) := by omega
          have hok := HFit.out.ok v hv p hlt (imps F v p)[k] (List.getElem_mem hlt2)
          have hpre := pre_imp (F := F) (v := v) (p := p) hlt2
          generalize (imps F v p)[k] = x at *
          obtain ⟨x1, x2⟩ := x
          have HOK := Lib.hid hok
          have HPRE := Lib.hid hpre
          clear hok hpre b3 e35 et
          cases x1
          · have f2 : wr.cell? ⟨g, m2 * 15 + 10, none⟩ = some (.int .u32 0) := f2
            go_wp2_with fail
            refine (valid 0 false rfl wr).mono ?_
            rintro e w4 ⟨rfl, k4⟩
            have HV4 := Lib.hid (HV.out.kept2 k4)
            clear k4 f1 f2 f3
            go_wp2_with fail
            go_roundw
            case rel => exact ⟨k + 1, s3, t3, by omega, by go_num, by have := HR.out; rw [HPRE.out]; simpa using this, HC.out, HV4.out⟩
            case measure => simp [intOf]; omega
          · have hx2 : x2 < n := HOK.out rfl
            have f2 : wr.cell? ⟨g, m2 * 15 + 10, none⟩ = some (.int .u32 (4294967295 - (x2 : Int))) := f2
            go_wp2_with fail
            refine (valid (4294967295 - (x2 : Int)) true (by simp; omega) wr).mono ?_
            rintro e w4 ⟨rfl, k4⟩
            have HV4 := Lib.hid (HV.out.kept2 k4)
            have f24 := k4.cell f2
            have f5 : w4.cell? ⟨bf, 0, none⟩ = some (fnV bv bc bf bo) := HV4.out.vfun.cell 0
            unfold fnV at f5
            have HG := Lib.hid (fun W => get (4294967295 - (x2 : Int)) (by omega) (by omega) W)
            have et := Lib.hid (show 4294967295 - (4294967295 - (x2 : Int)) = (x2 : Int) by omega)
            generalize 4294967295 - (x2 : Int) = fl at *
            clear k4 f1 f2 f3 HV
            go_upto_region 12 with fail
            go_region_with (first | (go_at_call 18; refine (HG.out _).mono ?_; rintro e w5 ⟨rfl, k5⟩; have f6 := ((Kept.refl w4).drew.trans k5).cell f5) | (go_at_call 16; rw [et.out]; refine (HIH.out _ s3 t3 x2 (fun x hx => HR.out.mono x (upd_up hx)) (HR.out.mono v (upd_same _ _ _)) HC.out hx2 (HV4.out.kept2 ((Kept.refl w4).drew.trans k5))).mono ?_; rintro e w6 ⟨rfl, s5, t5, hR5, hV5⟩; have HR5 := Lib.hid hR5; have HV5 := Lib.hid hV5; clear hR5 hV5))
            all_goals
              go_wp2_with fail
              go_roundw
              case rel => exact ⟨k + 1, s5, t5, by omega, by go_num, by rw [HPRE.out]; exact HR.out.append HR5.out, by have := run_cnt HTin.out HR5.out (fun x hx => by rw [List.mem_singleton.1 hx]; exact hx2); have := HC.out; omega, HV5.out⟩
              case measure => simp [intOf]; omega
        · obtain rfl : k = (imps F v p).length := by omega
          rw [pre_part] at HR
          go_wp2_with fail
          go_roundw
          case rel => exact ⟨p + 1, s3, t3, by omega, by go_num, HR.out, HC.out, HV.out⟩
          case measure => simp [intOf]; omega
    · obtain rfl : p = np F v := by omega
      rw [pre_all] at HR
      obtain ⟨cs3, b3, _, _, e63⟩ := HO.out.repr
      have f1 : wr.cell? ⟨(G v).J, 63, none⟩ = some (.int .u32 (ixv (cssT F v))) := by rw [b3.cell, e63]
      have hcn := cnt_le s2.d n
      have hlen := HC.out
      have hcss := HFit.out.css v hv
      have hc32 := HFit.out.top
      clear b3 e63
      cases hc : hasC F v
      · have e : cssT F v = none := by simp [cssT, hc]
        rw [e] at f1
        have f1 : wr.cell? ⟨(G v).J, 63, none⟩ = some (.int .u32 0) := f1
        have HEM : Hid (s2.emit (C F) v = s2) := Lib.hid (by simp [St.emit, C, hc])
        clear hc e
        go_wp2_with fail
        refine (valid 0 false rfl wr).mono ?_
        rintro e w4 ⟨rfl, k4⟩
        have HV4 := Lib.hid (HV.out.kept2 k4)
        clear k4 f1
        go_wp2_with fail
        go_end0
        exact ⟨rfl, s2, t2, .go HD.out HR.out (by rw [HEM.out]; exact .nil), HV4.out⟩
      · have e : cssT F v = some (cssOf F v) := by simp [cssT, hc]
        rw [e] at f1
        have f1 : wr.cell? ⟨(G v).J, 63, none⟩ = some (.int .u32 (4294967295 - (cssOf F v : Int))) := f1
        have HEM : Hid (s2.emit (C F) v = ⟨s2.d, s2.o ++ [cssOf F v]⟩) := Lib.hid (by simp [St.emit, C, hc])
        have hne : cssOf F v ≠ 4294967295 := hcss hc
        have hle := H32.out v hv
        clear hc e
        obtain ⟨⟨a2, c2, rfl⟩, _⟩ := HV.out.ord
        go_wp2_with fail
        refine (valid (4294967295 - (cssOf F v : Int)) true (by simp; omega) wr).mono ?_
        rintro e w4 ⟨rfl, k4⟩
        have HV4 := Lib.hid (HV.out.kept2 k4)
        have f2 := k4.cell f1
        have f5 : w4.cell? ⟨bo, 0, none⟩ = some (.slice a2 s2.o.length c2) := HV4.out.vord.cell 0
        have HG := Lib.hid (fun W => get (4294967295 - (cssOf F v : Int)) (by omega) (by omega) W)
        have et := Lib.hid (show 4294967295 - (4294967295 - (cssOf F v : Int)) = (cssOf F v : Int) by omega)
        generalize hfl : 4294967295 - (cssOf F v : Int) = fl at *
        clear hfl k4 f1 HV
        go_upto_region 16 with fail
        go_region_law (first | (refine step_append_lies _ (by rfl) _ _ _ (by rfl) wm.heap.size 23 i0 (.int .u32 0) 1 4 Try.underlying27 hi hz0 hz1 hz2 (by rfl) (by decide) (.slice a2 s2.o.length c2) s2.o.length _ (by rfl) (HV5.out.ord.2.alloc _) ⟨w5.heap.size, 0, none⟩ 1 1 [.int .u32 (cssOf F v : Int)] (by rfl) (by rfl) (newsOf w5 [.int .u32 (cssOf F v : Int)] 23) (by simp [Value.oneCell']) (by decide) (by unfold maxLen; omega) (by omega) (by have := HV5.out.kept.size; simp; omega) _ (by rfl) ?_; intro g6 c6 w6 hown6 hg6 hat6 hlt6; have hA := HV5.out.append hown6 hg6 (hat6.elim (fun q => .inl q.symm) (fun q => .inr (by rw [q]; rfl))); obtain ⟨hA1, z1, z2⟩ := hA; have HA := Lib.hid hA1; clear hA1 hown6 hg6 hat6 hlt6) | (go_simp; go_at_call 18; refine (HG.out _).mono ?_; rintro e w5 ⟨rfl, k5⟩; rw [et.out]; have HV5 := Lib.hid (HV4.out.kept2 ((Kept.refl w4).drew.trans k5)); have f6 : w5.cell? ⟨bo, 0, none⟩ = some (.slice a2 s2.o.length c2) := HV5.out.vord.cell 0; have f7 : (w5.alloc (.cells #[.int .u32 (cssOf F v : Int)] 23)).cell? ⟨bo, 0, none⟩ = some (.slice a2 s2.o.length c2) := ((Kept.refl w5).alloc _).cell f6))
        all_goals
          go_end0
          exact ⟨rfl, _, _, .go HD.out HR.out (by rw [HEM.out]; exact .nil), HA.out⟩
end
theorem visitAll (wm : World) (bv bc bf bo mb cb LB n : Nat) (G : Nat → Rp) (F : Ct) (hfit : Fits n F) (h32 : ∀ v, v < n → cssOf F v ≤ 4294967295) (hm : Mem wm cb LB n G F) (N : Nat) : ∀ (w : World) (s : St) (t : Value) (v : Nat), n - cnt s.d n ≤ N → v < n → s.o.length ≤ cnt s.d n → Vs wm w bv bc bf bo mb cb s.d t s.o →
    Calls Try.prog 16 (VArgs bv bc bf bo v) w (VOut wm bv bc bf bo mb cb F v s) := by
  induction N with
  | zero =>
    intro w s t v hN hv hol h
    have hd : s.d v = true := by
      cases e : s.d v
      · have h1 := cnt_mark hv e
        have h2 := cnt_le (upd s.d v true) n
        omega
      · rfl
    exact visitDone wm w bv bc bf bo mb cb n F v s t hv hfit.top hd h
  | succ N ih =>
    intro w s t v hN hv hol h
    cases hd : s.d v
    · refine visitS wm w bv bc bf bo mb cb LB n G F v s t hv hfit hol hd h32 hm h fun W s2 t2 u hmono hv2 hol2 hu hV => ih W s2 t2 u ?_ hu hol2 hV
      have h1 := cnt_mark hv hd
      have h2 : cnt (upd s.d v true) n ≤ cnt s2.d n := cnt_mono fun x hx => by
        by_cases e : x = v
        · rw [e]; exact hv2
        · rw [upd_ne _ _ e] at hx; exact hmono x hx
      omega
    · exact visitDone wm w bv bc bf bo mb cb n F v s t hv hfit.top hd h
end Go.Proofs.Ytkogmgonceneeaa.css
