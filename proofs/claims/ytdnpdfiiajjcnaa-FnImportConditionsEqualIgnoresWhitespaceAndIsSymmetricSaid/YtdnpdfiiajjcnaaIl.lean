/-
  icwBuild over this seat's program: the condition list with the given texts.
  Conditions: the lists are readable and at most 2^20 long.
-/
import Derived.Test.YtdnpdfiiajjcnaaIk
import Derived.Test.YtdnpdfiiajjcnaaIb
import Derived.Deep.RegionWith
import Derived.Lib.LazyBuf
namespace Go.Proofs.Ytdnpdfiiajjcnaa.ic
open Go.ChangeShapes Go.WideShapes Go.ChangeAt Go.RowKit
open kit

def CdC (W : World) (cs : List Value) (o : Nat) (c : Icw) : Prop := ∃ t1 t2, cs[o]? = some (.slice none 0 0) ∧ cs[o + 1]? = some t1 ∧ cs[o + 2]? = some t2 ∧ Tk W t1 c.L ∧ Tk W t2 c.S
/-- the condition list's row, k of them laid; what the tokens read lies above the row -/
structure Cq (w W : World) (F : Ct) (k : Nat) : Prop where
  kept : Kept w W
  row : ∃ cs, Blk W w.heap.size 39 cs ∧ cs.length = F.length * 3 ∧ ∀ i, i < k → CdC W cs (i * 3) (at_ F i)
section
variable {w W W2 : World} {k : Nat} {F : Ct}
theorem CdC.kept {cs : List Value} {o : Nat} {c : Icw} (h : CdC W cs o c) (kk : Kept W W2) : CdC W2 cs o c := by
  obtain ⟨t1, t2, h0, h1, h2, h3, h4⟩ := h
  exact ⟨t1, t2, h0, h1, h2, h3.kept kk, h4.kept kk⟩
theorem CdC.cells {cs cs2 : List Value} {o : Nat} {c : Icw} (h : CdC W cs o c) (he : ∀ j, j < 3 → cs2[o + j]? = cs[o + j]?) : CdC W cs2 o c := by
  obtain ⟨t1, t2, h0, h1, h2, r⟩ := h
  exact ⟨t1, t2, (he 0 (by omega)).trans h0, (he 1 (by omega)).trans h1, (he 2 (by omega)).trans h2, r⟩
/-- a token list survives stores into a block of another type -/
theorem Tk.far {v : Value} {ss : List ByteArray} (h : Tk W v ss) {g : Nat} {cs : List Value} (hb : Blk W g 39 cs) (vs : List Value) (o : Nat) : Tk (W.setCells g o vs) v ss := by
  rcases h with h | ⟨h0, b, h1, ⟨c2, h2⟩, h3⟩
  · exact .inl h
  · have hne : b ≠ g := h2.apart hb (by decide)
    have hB := Blk.setCellsFar hne vs o W c2 h2
    have q2 : (W.setCells g o vs).heap[b]? = W.heap[b]? := hB.trans h2.symm
    refine .inr ⟨h0, b, h1, ⟨c2, hB⟩, fun i hi => ?_⟩
    obtain ⟨z0, z1, z2, z3, z4, z5, z, z6⟩ := h3 i hi
    have hc : ∀ (off : Nat) (x : Value), W.cell? ⟨b, off, none⟩ = some x → (W.setCells g o vs).cell? ⟨b, off, none⟩ = some x := fun off x hx => (World.cell?_of_block (a := ⟨b, off, none⟩) q2).trans hx
    exact ⟨hc _ _ z0, hc _ _ z1, hc _ _ z2, hc _ _ z3, hc _ _ z4, hc _ _ z5, z, hc _ _ z6⟩
theorem Cq.kept2 (h : Cq w W F k) (kk : Kept W W2) : Cq w W2 F k := by
  obtain ⟨cs, hb, hl, hc⟩ := h.row
  exact ⟨h.kept.trans kk, cs, hb.kept kk, hl, fun i hi => (hc i hi).kept kk⟩
theorem Cq.lim (hk : k < F.length) : k * 3 + 3 ≤ F.length * 3 := by have := Nat.mul_le_mul_right 3 (show k + 1 ≤ F.length by omega); omega
theorem Cq.there (h : Cq w W F k) (hk : k < F.length) : W.there w.heap.size (k * 3) 3 := by
  obtain ⟨cs, hb, hl, _⟩ := h.row
  exact hb.there (by rw [hl]; exact Cq.lim hk)
theorem Cq.step (h : Cq w W F k) (hk : k < F.length) {t1 t2 : Value} (h1 : Tk W t1 (at_ F k).L) (h2 : Tk W t2 (at_ F k).S) : Cq w (W.setCells w.heap.size (k * 3) [.slice none 0 0, t1, t2]) F (k + 1) := by
  obtain ⟨cs, hb, hl, hc⟩ := h.row
  obtain ⟨cs2, q2, l2, a2, b2⟩ := Blk.setCells [.slice none 0 0, t1, t2] (k * 3) W cs hb (by rw [hl]; exact Cq.lim hk)
  refine ⟨Kept.setCells _ _ _ h.kept (Nat.le_refl _), cs2, q2, l2.trans hl, fun i hi => ?_⟩
  by_cases e : i = k
  · subst e
    exact ⟨t1, t2, b2 0 (by simp), b2 1 (by simp), b2 2 (by simp), Tk.far h1 hb _ _, Tk.far h2 hb _ _⟩
  · obtain ⟨u1, u2, c0, c1, c2, c3, c4⟩ := hc i (by omega)
    exact ⟨u1, u2, (a2 _ (by omega)).trans c0, (a2 _ (by omega)).trans c1, (a2 _ (by omega)).trans c2, Tk.far c3 hb _ _, Tk.far c4 hb _ _⟩
theorem Cq.fin (h : Cq w W F F.length) (hm : F.length ≤ 1048576) : Cd W (.slice (some ⟨w.heap.size, 0, none⟩) F.length F.length) F := by
  obtain ⟨cs, hb, hl, hc⟩ := h.row
  refine ⟨_, _, rfl, Nat.le_refl _, by unfold maxLen; omega, (fun e => by cases e), fun _ => ⟨_, 0, rfl, hb.lt, fun i hi => ?_⟩⟩
  obtain ⟨t1, t2, c0, c1, c2, c3, c4⟩ := hc i hi
  rw [Nat.zero_add]
  exact ⟨t1, t2, by rw [hb.cell]; exact c0, by rw [hb.cell]; exact c1, by rw [hb.cell]; exact c2, c3, c4⟩
end
def MadeCd (w : World) (F : Ct) (e : Ending) (w' : World) : Prop := (∃ v, e = .returned v ∧ Cd w' v F) ∧ Kept w w'
/-- the layers are laid -/
def R8 (w4 : World) (q : Nat) (c : Icw) (W : World) : Prop := ∃ a1 : Option Addr, Tk W (.slice a1 c.L.length c.L.length) c.L ∧ Blk W q 39 [.slice none 0 0, .slice a1 c.L.length c.L.length, .slice none 0 0] ∧ Kept w4 W
def R9 (w4 : World) (q : Nat) (c : Icw) (W : World) : Prop := ∃ a1 a2 : Option Addr, Tk W (.slice a1 c.L.length c.L.length) c.L ∧ Tk W (.slice a2 c.S.length c.S.length) c.S ∧ Blk W q 39 [.slice none 0 0, .slice a1 c.L.length c.L.length, .slice a2 c.S.length c.S.length] ∧ Kept w4 W
def T7 (w : World) (F : Ct) (t6 : Value) (W : World) : Prop := ∃ k : Nat, k ≤ F.length ∧ t6 = .int .i64 (k : Int) ∧ Cq w W F k
theorem sizeC39 : (Try.prog.info? 39).map (·.size) = some 3 := by kernel_rfl
set_option maxRecDepth 100000 in
set_option maxHeartbeats 8000000 in
theorem build (w : World) (u : Bool) (a : Option Addr) (n c : Nat) (F : Ct) (h : IcsC w (.slice a n c) F) (hF : F.length = n) (hn : n ≤ 1048576) (hl : Lens F 1048576 n) :
    Calls Try.prog 7 #[.slice a n c, .bool u] w (MadeCd w F) := by
  obtain rfl := hF
  have heq := fun w : World => Go.run_eql_slice_nil (P := Try.prog) w 22 32 a F.length c Try.underlying22
  obtain ⟨a', c', e, hc1, hc2, hz⟩ := Sl.len h
  injection e with e1 e2 e3
  subst e1 e3
  clear e2
  have HR := Lib.hid h
  have HL := Lib.hid hl
  clear h hl
  cases a with
  | none =>
    have h0 := hz rfl
    simp only [Option.isNone] at heq
    have hF0 : F = [] := List.eq_nil_of_length_eq_zero h0
    have HX : Hid (Cd w (.slice none 0 0) F) := Lib.hid (by rw [hF0]; exact Sl.nil _ _ _)
    clear HR HL h0 hF0 hz hc1 hc2
    go_enter Try.func7, Try.ntmps7
    go_wp2_with fail
    go_ret
    exact ⟨⟨_, rfl, HX.out⟩, Kept.refl _⟩
  | some ad =>
    simp only [Option.isNone] at heq
    obtain ⟨C, l1, _, g1, m1⟩ := makeN1 (T := 26) (E := 39) (size := 3) (bytes := 72) Try.underlying26 (by kernel_rfl) (by kernel_rfl) F.length (by omega) (by omega)
    have HA0 : Hid (T7 w F (.int .i64 0) (w.alloc (.cells C.toArray 39))) := Lib.hid ⟨0, Nat.zero_le _, rfl, (Kept.refl _).alloc _, C, Blk.new _ _ _, l1, fun i hi => absurd hi (by omega)⟩
    clear g1 l1 hz
    go_enter Try.func7, Try.ntmps7
    go_wp2_with fail
    clear m1 heq
    generalize w.alloc (.cells C.toArray 39) = wa at *
    go_loopw [6] (fun t6 W => T7 w F t6 W) (fun t6 _ => F.length - (intOf t6).toNat)
    case atStart => exact HA0.out
    case round =>
      obtain ⟨k, hk, rfl, hT⟩ := hrel
      have HT := Lib.hid hT
      obtain ⟨wo, rfl⟩ : ∃ wo : World, wo = wr := ⟨_, rfl⟩
      clear hT HA0
      by_cases hlt : k < F.length
      · obtain ⟨b, off, ea, _, a1, c1, a2, c2, a3, c3, a4, c4, x1, x2, x3, x4, r1, r2, r3, r4, _⟩ := (HR.out.kept HT.out.kept).at_ hlt
        obtain ⟨l1, l2, l3, l4⟩ := HL.out k hlt
        cases ea
        have k0 : (k : Int) < (F.length : Int) := by omega
        have C1 := Lib.hid (fun W (kk : Kept wo W) => tokens W u _ _ _ _ _ _ _ _ (r1.kept kk) (r2.kept kk) l1 l2)
        have C2 := Lib.hid (fun W (kk : Kept wo W) => tokens W u _ _ _ _ _ _ _ _ (r3.kept kk) (r4.kept kk) l3 l4)
        clear r1 r2 r3 r4
        have HX3 := Lib.hid x3
        have HX4 := Lib.hid x4
        go_upto_region 8 with fail
        have KA := Lib.hid ((Kept.refl wo).alloc (.cells #[.slice none 0 0, .slice none 0 0, .slice none 0 0] 39))
        have HB4 : Hid (Blk (wo.alloc (.cells #[.slice none 0 0, .slice none 0 0, .slice none 0 0] 39)) wo.heap.size 39 [.slice none 0 0, .slice none 0 0, .slice none 0 0]) := Lib.hid (Blk.new wo 39 _)
        generalize wo.alloc (.cells #[.slice none 0 0, .slice none 0 0, .slice none 0 0] 39) = w4 at *
        have HQ4 := Lib.hid (Nat.le_refl wo.heap.size)
        generalize hq : wo.heap.size = q at *
        have HQ := Lib.hid hq
        clear hq
        replace x1 := KA.out.cell x1
        replace x2 := KA.out.cell x2
        replace x3 := KA.out.cell x3
        replace x4 := KA.out.cell x4
        go_cut [] (fun W => Hid (R8 wo q (at_ F k) W))
        case first =>
          go_region_with (go_at_call 12; refine (C1.out _ (KA.out.trans ((Kept.refl w4).drew))).mono ?_; rintro e w5 ⟨⟨v1, rfl, hv⟩, k5⟩; obtain ⟨av, rfl, _⟩ := hv.form; have HV := Lib.hid hv; have hb5 := HB4.out.drew.kept k5; have y1 := hb5.cell 1; have y2 := hb5.free 1; simp only [List.getElem?_cons_succ, List.getElem?_cons_zero] at y1; have HB5 := Lib.hid hb5; have K5 := Lib.hid ((Kept.refl w4).drew.trans k5); clear hv hb5 k5)
          all_goals
            have HRR : Hid (R8 wo q (at_ F k) (w5.setCell ⟨q, 1, none⟩ (.slice av (at_ F k).L.length (at_ F k).L.length))) := Lib.hid ⟨av, Tk.far HV.out HB5.out [_] 1, HB5.out.set 1 _, (KA.out.trans K5.out).setCell (p := ⟨q, 1, none⟩) (by rw [HQ.out]; exact Nat.le_refl _) _⟩
            clear y1 y2 HV HB5 K5
            go_wp2_with fail
            go_meet
            exact HRR
        case rest =>
          obtain ⟨av, hv, hb6, k6⟩ := hcut.out
          obtain ⟨w6, rfl⟩ : ∃ w6 : World, w6 = wc := ⟨_, rfl⟩
          have HV6 := Lib.hid hv
          have HB6 := Lib.hid hb6
          have K6 := Lib.hid k6
          clear hcut hv hb6 k6 HB4 x1 x2 x3 x4
          have x3 := K6.out.cell HX3.out
          have x4 := K6.out.cell HX4.out
          go_upto_region 9 with fail
          go_cut [] (fun W => Hid (R9 wo q (at_ F k) W))
          case first =>
            go_region_with (go_at_call 12; refine (C2.out _ (K6.out.trans ((Kept.refl w6).drew))).mono ?_; rintro e w7 ⟨⟨v2, rfl, hv⟩, k7⟩; obtain ⟨aw, rfl, _⟩ := hv.form; have HV := Lib.hid hv; have HVV := Lib.hid (HV6.out.kept ((Kept.refl w6).drew.trans k7)); have hb7 := HB6.out.drew.kept k7; have y1 := hb7.cell 2; have y2 := hb7.free 2; simp only [List.getElem?_cons_succ, List.getElem?_cons_zero] at y1; have HB7 := Lib.hid hb7; have K7 := Lib.hid ((Kept.refl w6).drew.trans k7); clear hv hb7 k7)
            all_goals
              have HRR : Hid (R9 wo q (at_ F k) (w7.setCell ⟨q, 2, none⟩ (.slice aw (at_ F k).S.length (at_ F k).S.length))) := Lib.hid ⟨av, aw, Tk.far HVV.out HB7.out [_] 2, Tk.far HV.out HB7.out [_] 2, HB7.out.set 2 _, (K6.out.trans K7.out).setCell (p := ⟨q, 2, none⟩) (by rw [HQ.out]; exact Nat.le_refl _) _⟩
              clear y1 y2 HV HVV HB7 K7
              go_wp2_with fail
              go_meet
              exact HRR
          case rest =>
            obtain ⟨av, aw, hv1, hv2, hb8, k8⟩ := hcut.out
            obtain ⟨w8, rfl⟩ : ∃ w8 : World, w8 = wc := ⟨_, rfl⟩
            have HN : Hid (Cq w (w8.setCells w.heap.size (k * 3) [.slice none 0 0, .slice av (at_ F k).L.length (at_ F k).L.length, .slice aw (at_ F k).S.length (at_ F k).S.length]) F (k + 1)) := Lib.hid ((HT.out.kept2 k8).step hlt hv1 hv2)
            have HTH : Hid (w8.there w.heap.size (k * 3) (#[.slice none 0 0, .slice av (at_ F k).L.length (at_ F k).L.length, .slice aw (at_ F k).S.length (at_ F k).S.length] : Array Value).size) := Lib.hid ((HT.out.kept2 k8).there hlt)
            have HSZ : Hid ((Try.prog.info? 39).map (·.size) = some (#[.slice none 0 0, .slice av (at_ F k).L.length (at_ F k).L.length, .slice aw (at_ F k).S.length (at_ F k).S.length] : Array Value).size) := Lib.hid sizeC39
            have HON : Hid ((#[.slice none 0 0, .slice av (at_ F k).L.length (at_ F k).L.length, .slice aw (at_ F k).S.length (at_ F k).S.length] : Array Value).all (·.oneCell') = true) := Lib.hid (by simp [Value.oneCell'])
            have y0 : w8.cell? ⟨q, 0, none⟩ = some (.slice none 0 0) := hb8.cell 0
            have y1 : w8.cell? ⟨q, 1, none⟩ = some (.slice av (at_ F k).L.length (at_ F k).L.length) := hb8.cell 1
            have y2 : w8.cell? ⟨q, 2, none⟩ = some (.slice aw (at_ F k).S.length (at_ F k).S.length) := hb8.cell 2
            clear hcut hv1 hv2 hb8 k8 x3 x4
            go_wp2_with (with_reducible refine wpList_store_mid rfl 39 (.tmp 48) (.tmp 47) rfl w.heap.size (k * 3) #[.slice none 0 0, .slice av (at_ F k).L.length (at_ F k).L.length, .slice aw (at_ F k).S.length (at_ F k).S.length] rfl rfl HTH.out HSZ.out HON.out ?_)
            go_roundw
            case rel => exact ⟨k + 1, by omega, by go_num, HN.out⟩
            case measure => simp [intOf]; omega
      · obtain rfl : k = F.length := by omega
        have HX : Hid (Cd wo (.slice (some ⟨w.heap.size, 0, none⟩) F.length F.length) F) := Lib.hid (HT.out.fin hn)
        go_wp2_with fail
        go_ret
        exact ⟨⟨_, rfl, HX.out⟩, HT.out.kept⟩
end Go.Proofs.Ytdnpdfiiajjcnaa.ic
