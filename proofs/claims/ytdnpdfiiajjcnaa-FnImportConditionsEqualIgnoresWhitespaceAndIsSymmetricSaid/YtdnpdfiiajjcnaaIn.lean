/-
  icwClone over this seat's program: a copy that reads alike.
  Conditions: the lists are readable and at most 2^20 long.
-/
import Derived.Test.YtdnpdfiiajjcnaaIb
import Derived.Test.YtdnpdfiiajjcnaaCloneS
import Derived.Test.YtdnpdfiiajjcnaaCloneU8
namespace Go.Proofs.Ytdnpdfiiajjcnaa.ic
open Go.ChangeShapes Go.WideShapes Go.ChangeAt Go.RowKit
open kit

/-- a slice value in a cell that reads as a row whose block lies at lo or above -/
def RowV (lo : Nat) (W : World) (v : Value) (xs : List Value) : Prop := ∃ a c, v = .slice a xs.length c ∧ Row W a xs.length c xs ∧ ∀ b, a.map (·.block) = some b → lo ≤ b
def Same (lo : Nat) (W W2 : World) : Prop := W.heap.size ≤ W2.heap.size ∧ ∀ b, lo ≤ b → b < W.heap.size → W2.heap[b]? = W.heap[b]?
theorem Same.of_kept {lo : Nat} {W W2 : World} (k : Kept W W2) : Same lo W W2 := ⟨k.size, fun b _ hb => k.block b hb⟩
theorem Same.set {lo : Nat} (W : World) {g : Nat} (hg : g < lo) (o : Nat) (u : Value) : Same lo W (W.setCell ⟨g, o, none⟩ u) := ⟨by simp [World.setCell], fun b hb _ => Below.heap_setCell W ⟨g, o, none⟩ u b (by show b ≠ g; omega)⟩
theorem RowV.same {lo : Nat} {W W2 : World} {v : Value} {xs : List Value} (h : RowV lo W v xs) (k : Same lo W W2) : RowV lo W2 v xs := by
  obtain ⟨a, c, h1, h2, h3⟩ := h
  exact ⟨a, c, h1, h2.far k.1 (fun b hb e => k.2 b (h3 b e) hb), h3⟩
def IcR (lo : Nat) (W : World) (cs : List Value) (o : Nat) (c : Icw) : Prop := ∃ v1 v2 v3 v4, cs[o]? = some v1 ∧ cs[o + 1]? = some v2 ∧ cs[o + 2]? = some v3 ∧ cs[o + 3]? = some v4 ∧
  RowV lo W v1 (c.L.map Value.string) ∧ RowV lo W v2 (c.lw.map (Value.int .u8)) ∧ RowV lo W v3 (c.S.map Value.string) ∧ RowV lo W v4 (c.sw.map (Value.int .u8)) ∧ (∀ z ∈ c.lw, 0 ≤ z ∧ z ≤ 255) ∧ ∀ z ∈ c.sw, 0 ≤ z ∧ z ≤ 255
theorem IcR.same {lo : Nat} {W W2 : World} {cs : List Value} {o : Nat} {c : Icw} (h : IcR lo W cs o c) (k : Same lo W W2) : IcR lo W2 cs o c := by
  obtain ⟨v1, v2, v3, v4, h1, h2, h3, h4, r1, r2, r3, r4, r⟩ := h
  exact ⟨v1, v2, v3, v4, h1, h2, h3, h4, r1.same k, r2.same k, r3.same k, r4.same k, r⟩
theorem IcR.cells {lo : Nat} {W : World} {cs cs2 : List Value} {o : Nat} {c : Icw} (h : IcR lo W cs o c) (he : ∀ j, j < 4 → cs2[o + j]? = cs[o + j]?) : IcR lo W cs2 o c := by
  obtain ⟨v1, v2, v3, v4, h1, h2, h3, h4, r⟩ := h
  exact ⟨v1, v2, v3, v4, (he 0 (by omega)).trans h1, (he 1 (by omega)).trans h2, (he 2 (by omega)).trans h3, (he 3 (by omega)).trans h4, r⟩
structure Nq (w W : World) (F : Ct) (k : Nat) : Prop where
  kept : Kept w W
  row : ∃ cs, Blk W w.heap.size 32 cs ∧ cs.length = F.length * 4 ∧ ∀ i, i < k → IcR (w.heap.size + 1) W cs (i * 4) (at_ F i)
section
variable {w W W2 : World} {k : Nat} {F : Ct}
theorem Nq.kept2 (h : Nq w W F k) (kk : Kept W W2) : Nq w W2 F k := by
  obtain ⟨cs, hb, hl, hc⟩ := h.row
  exact ⟨h.kept.trans kk, cs, hb.kept kk, hl, fun i hi => (hc i hi).same (Same.of_kept kk)⟩
theorem Nq.has (h : Nq w W F k) {i o : Nat} (hi : i < F.length) (ho : o < 4) : ∃ v, W.cell? ⟨w.heap.size, i * 4 + o, none⟩ = some v ∧ W.frozen? ⟨w.heap.size, i * 4 + o, none⟩ = false := by
  obtain ⟨cs, hb, hl, _⟩ := h.row
  exact hb.has (by rw [hl]; have := Nat.mul_le_mul_right 4 (show i + 1 ≤ F.length by omega); omega)
/-- a store into the row of file k or beyond leaves what is laid -/
theorem Nq.put (h : Nq w W F k) {o : Nat} (ho : k * 4 ≤ o) (u : Value) : Nq w (W.setCell ⟨w.heap.size, o, none⟩ u) F k := by
  obtain ⟨cs, hb, hl, hc⟩ := h.row
  refine ⟨h.kept.setCell (Nat.le_refl _) _, _, hb.set o u, by simpa using hl, fun i hi => ?_⟩
  exact ((hc i hi).same (Same.set W (Nat.lt_succ_self _) o u)).cells fun j hj => by rw [List.getElem?_set_ne (by omega)]
theorem Nq.fin (h : Nq w W F F.length) (hm : F.length ≤ 1048576) : IcsC W (.slice (some ⟨w.heap.size, 0, none⟩) F.length F.length) F := by
  obtain ⟨cs, hb, hl, hc⟩ := h.row
  refine ⟨_, _, rfl, Nat.le_refl _, by unfold maxLen; omega, (fun e => by cases e), fun _ => ⟨_, 0, rfl, hb.lt, fun i hi => ?_⟩⟩
  obtain ⟨v1, v2, v3, v4, h1, h2, h3, h4, ⟨a1, c1, rfl, r1, _⟩, ⟨a2, c2, rfl, r2, _⟩, ⟨a3, c3, rfl, r3, _⟩, ⟨a4, c4, rfl, r4, _⟩, r⟩ := hc i hi
  simp only [List.length_map] at h1 h2 h3 h4 r1 r2 r3 r4
  rw [Nat.zero_add]
  exact ⟨a1, c1, a2, c2, a3, c3, a4, c4, by rw [hb.cell]; exact h1, by rw [hb.cell]; exact h2, by rw [hb.cell]; exact h3, by rw [hb.cell]; exact h4, r1, r2, r3, r4, r⟩
/-- the four cells of entry k are laid -/
theorem Nq.close (h : Nq w W F k) (hk : k < F.length) {v1 v2 v3 v4 : Value} (h1 : W.cell? ⟨w.heap.size, k * 4, none⟩ = some v1) (h2 : W.cell? ⟨w.heap.size, k * 4 + 1, none⟩ = some v2) (h3 : W.cell? ⟨w.heap.size, k * 4 + 2, none⟩ = some v3) (h4 : W.cell? ⟨w.heap.size, k * 4 + 3, none⟩ = some v4)
    (r1 : RowV (w.heap.size + 1) W v1 ((at_ F k).L.map Value.string)) (r2 : RowV (w.heap.size + 1) W v2 ((at_ F k).lw.map (Value.int .u8))) (r3 : RowV (w.heap.size + 1) W v3 ((at_ F k).S.map Value.string)) (r4 : RowV (w.heap.size + 1) W v4 ((at_ F k).sw.map (Value.int .u8)))
    (z1 : ∀ z ∈ (at_ F k).lw, 0 ≤ z ∧ z ≤ 255) (z2 : ∀ z ∈ (at_ F k).sw, 0 ≤ z ∧ z ≤ 255) : Nq w W F (k + 1) := by
  obtain ⟨cs, hb, hl, hc⟩ := h.row
  refine ⟨h.kept, cs, hb, hl, fun i hi => ?_⟩
  by_cases e : i = k
  · subst e
    rw [hb.cell] at h1 h2 h3 h4
    exact ⟨v1, v2, v3, v4, h1, h2, h3, h4, r1, r2, r3, r4, z1, z2⟩
  · exact hc i (by omega)
end
def ClonedI (w : World) (F : Ct) (e : Ending) (w' : World) : Prop := (∃ v, e = .returned v ∧ IcsC w' v F) ∧ Kept w w'
def T6 (w : World) (F : Ct) (t4 : Value) (W : World) : Prop := ∃ k : Nat, k ≤ F.length ∧ t4 = .int .i64 (k : Int) ∧ Nq w W F k
theorem RowV.of_own {W : World} {base lo E : Nat} {a : Option Addr} {n : Nat} {xs : List Value} (h : W.ownsRow base E 1 (.slice a n n) n xs) (hb : lo ≤ base) : RowV lo W (.slice a n n) xs := by
  have r := Row.of_own h
  have e := r.1
  subst e
  exact ⟨a, _, rfl, r, fun b e => by have := (own_lt h b e).1; omega⟩
theorem Nq.other {w W : World} {k : Nat} {F : Ct} (h : Nq w W F k) {o o2 : Nat} (ho : o ≠ o2) (u : Value) : (W.setCell ⟨w.heap.size, o2, none⟩ u).cell? ⟨w.heap.size, o, none⟩ = W.cell? ⟨w.heap.size, o, none⟩ := by
  obtain ⟨cs, hb, _⟩ := h.row
  rw [(hb.set o2 u).cell, hb.cell, List.getElem?_set_ne (by omega)]
theorem Nq.self {w W : World} {k : Nat} {F : Ct} (h : Nq w W F k) (hk : k < F.length) {j : Nat} (hj : j < 4) (u : Value) : (W.setCell ⟨w.heap.size, k * 4 + j, none⟩ u).cell? ⟨w.heap.size, k * 4 + j, none⟩ = some u := by
  obtain ⟨cs, hb, hl, _⟩ := h.row
  rw [(hb.set _ u).cell, List.getElem?_set_self (by rw [hl]; have := Nat.mul_le_mul_right 4 (show k + 1 ≤ F.length by omega); omega)]
set_option maxRecDepth 100000 in
set_option maxHeartbeats 8000000 in
theorem cloneI (w : World) (a : Option Addr) (n c : Nat) (F : Ct) (h : IcsC w (.slice a n c) F) (hF : F.length = n) (hn : n ≤ 1048576) (hl : Lens F 1048576 n) :
    Calls Try.prog 6 #[.slice a n c] w (ClonedI w F) := by
  obtain rfl := hF
  have heq := fun w : World => Go.run_eql_slice_nil (P := Try.prog) w 22 32 a F.length c Try.underlying22
  obtain ⟨a', c', e, hc1, hc2, hz⟩ := Sl.len h
  injection e with e1 e2 e3
  subst e1 e3
  clear e2
  have HR := Lib.hid h
  have HL := Lib.hid hl
  clear h hl
  cases a with
  | none =>
    have h0 := hz rfl
    simp only [Option.isNone] at heq
    have hF0 : F = [] := List.eq_nil_of_length_eq_zero h0
    have HX : Hid (IcsC w (.slice none 0 0) F) := Lib.hid (by rw [hF0]; exact Sl.nil _ _ _)
    clear HR HL h0 hF0 hz hc1 hc2
    go_enter Try.func6, Try.ntmps6
    go_wp2_with fail
    go_ret
    exact ⟨⟨_, rfl, HX.out⟩, Kept.refl _⟩
  | some ad =>
    simp only [Option.isNone] at heq
    obtain ⟨C, l1, _, g1, m1⟩ := makeN1 (T := 22) (E := 32) (size := 4) (bytes := 96) Try.underlying22 (by kernel_rfl) (by kernel_rfl) F.length (by omega) (by omega)
    have HA0 : Hid (T6 w F (.int .i64 0) (w.alloc (.cells C.toArray 32))) := Lib.hid ⟨0, Nat.zero_le _, rfl, (Kept.refl _).alloc _, C, Blk.new _ _ _, l1, fun i hi => absurd hi (by omega)⟩
    clear g1 l1 hz
    go_enter Try.func6, Try.ntmps6
    go_wp2_with fail
    clear m1 heq
    generalize w.alloc (.cells C.toArray 32) = wa at *
    go_loopw [4] (fun t4 W => T6 w F t4 W) (fun t4 _ => F.length - (intOf t4).toNat)
    case atStart => exact HA0.out
    case round =>
      obtain ⟨k, hk, rfl, hT⟩ := hrel
      have Hwo := Lib.hid hT
      obtain ⟨wo, rfl⟩ : ∃ wo : World, wo = wr := ⟨_, rfl⟩
      clear hT HA0
      by_cases hlt : k < F.length
      · obtain ⟨b, off, ea, _, a1, c1, a2, c2, a3, c3, a4, c4, x1, x2, x3, x4, r1, r2, r3, r4, zz1, zz2⟩ := HR.out.at_ hlt
        obtain ⟨l1, l2, l3, l4⟩ := HL.out k hlt
        cases ea
        have k0 : (k : Int) < (F.length : Int) := by omega
        have C1 := Lib.hid (fun W (kk : Kept w W) => cloneS.run _ _ _ _ W (r1.kept kk) (by omega))
        have C2 := Lib.hid (fun W (kk : Kept w W) => cloneU8.run _ _ _ _ W (r2.kept kk) (by omega))
        have C3 := Lib.hid (fun W (kk : Kept w W) => cloneS.run _ _ _ _ W (r3.kept kk) (by omega))
        have C4 := Lib.hid (fun W (kk : Kept w W) => cloneU8.run _ _ _ _ W (r4.kept kk) (by omega))
        have HX1 := Lib.hid x1
        have HX2 := Lib.hid x2
        have HX3 := Lib.hid x3
        have HX4 := Lib.hid x4
        have HZ := Lib.hid (And.intro zz1 zz2)
        clear r1 r2 r3 r4 x1 x2 x3 x4 zz1 zz2
        have x1 := Hwo.out.kept.cell HX1.out
        go_wp2_with fail
        refine (C1.out wo Hwo.out.kept).mono ?_
        rintro e w1 ⟨b1, rfl, own, _, kk⟩
        have HV1 : Hid (RowV (w.heap.size + 1) w1 (.slice b1 (at_ F k).L.length (at_ F k).L.length) ((at_ F k).L.map Value.string)) := Lib.hid (RowV.of_own own (by obtain ⟨cs, hb, _⟩ := Hwo.out.row; exact hb.lt))
        have HK1 := Lib.hid kk
        have HN1 := Lib.hid (Hwo.out.kept2 kk)
        clear own kk x1
        obtain ⟨vv, y1, y2⟩ := HN1.out.has hlt (o := 0) (by omega)
        rw [Nat.add_zero] at y1 y2
        have Hu1 : Hid (Nq w (w1.setCell ⟨w.heap.size, k * 4, none⟩ (.slice b1 (at_ F k).L.length (at_ F k).L.length)) F k) := Lib.hid (HN1.out.put (o := k * 4) (by omega) _)
        have EC1 : Hid ((w1.setCell ⟨w.heap.size, k * 4, none⟩ (.slice b1 (at_ F k).L.length (at_ F k).L.length)).cell? ⟨w.heap.size, k * 4, none⟩ = some (.slice b1 (at_ F k).L.length (at_ F k).L.length)) := Lib.hid (HN1.out.self hlt (j := 0) (by omega) (.slice b1 (at_ F k).L.length (at_ F k).L.length))
        have HS1 := Lib.hid (Same.set (lo := w.heap.size + 1) w1 (Nat.lt_succ_self w.heap.size) (k * 4) (.slice b1 (at_ F k).L.length (at_ F k).L.length))
        have HV1 := Lib.hid (HV1.out.same HS1.out)
        go_upto_region 8 with fail
        generalize w1.setCell ⟨w.heap.size, k * 4, none⟩ (.slice b1 (at_ F k).L.length (at_ F k).L.length) = u1 at *
        clear y1 y2
        have x2 := Hu1.out.kept.cell HX2.out
        go_wp2_with fail
        refine (C2.out u1 Hu1.out.kept).mono ?_
        rintro e w2 ⟨b2, rfl, own, _, kk⟩
        have HV2 : Hid (RowV (w.heap.size + 1) w2 (.slice b2 (at_ F k).lw.length (at_ F k).lw.length) ((at_ F k).lw.map (Value.int .u8))) := Lib.hid (RowV.of_own own (by obtain ⟨cs, hb, _⟩ := Hu1.out.row; exact hb.lt))
        have HK2 := Lib.hid kk
        have HN2 := Lib.hid (Hu1.out.kept2 kk)
        clear own kk x2
        obtain ⟨vv, y1, y2⟩ := HN2.out.has hlt (o := 1) (by omega)
        skip
        have Hu2 : Hid (Nq w (w2.setCell ⟨w.heap.size, k * 4 + 1, none⟩ (.slice b2 (at_ F k).lw.length (at_ F k).lw.length)) F k) := Lib.hid (HN2.out.put (o := k * 4 + 1) (by omega) _)
        have EC2 : Hid ((w2.setCell ⟨w.heap.size, k * 4 + 1, none⟩ (.slice b2 (at_ F k).lw.length (at_ F k).lw.length)).cell? ⟨w.heap.size, k * 4 + 1, none⟩ = some (.slice b2 (at_ F k).lw.length (at_ F k).lw.length)) := Lib.hid (HN2.out.self hlt (j := 1) (by omega) (.slice b2 (at_ F k).lw.length (at_ F k).lw.length))
        have HS2 := Lib.hid (Same.set (lo := w.heap.size + 1) w2 (Nat.lt_succ_self w.heap.size) (k * 4 + 1) (.slice b2 (at_ F k).lw.length (at_ F k).lw.length))
        have HV2 := Lib.hid (HV2.out.same HS2.out)
        have EC1 := Lib.hid ((HN2.out.other (o := k * 4) (o2 := k * 4 + 1) (by omega) (.slice b2 (at_ F k).lw.length (at_ F k).lw.length)).trans (HK2.out.cell EC1.out))
        have HV1 := Lib.hid ((HV1.out.same (Same.of_kept HK2.out)).same HS2.out)
        go_upto_region 9 with fail
        generalize w2.setCell ⟨w.heap.size, k * 4 + 1, none⟩ (.slice b2 (at_ F k).lw.length (at_ F k).lw.length) = u2 at *
        clear y1 y2
        have x3 := Hu2.out.kept.cell HX3.out
        go_wp2_with fail
        refine (C3.out u2 Hu2.out.kept).mono ?_
        rintro e w3 ⟨b3, rfl, own, _, kk⟩
        have HV3 : Hid (RowV (w.heap.size + 1) w3 (.slice b3 (at_ F k).S.length (at_ F k).S.length) ((at_ F k).S.map Value.string)) := Lib.hid (RowV.of_own own (by obtain ⟨cs, hb, _⟩ := Hu2.out.row; exact hb.lt))
        have HK3 := Lib.hid kk
        have HN3 := Lib.hid (Hu2.out.kept2 kk)
        clear own kk x3
        obtain ⟨vv, y1, y2⟩ := HN3.out.has hlt (o := 2) (by omega)
        skip
        have Hu3 : Hid (Nq w (w3.setCell ⟨w.heap.size, k * 4 + 2, none⟩ (.slice b3 (at_ F k).S.length (at_ F k).S.length)) F k) := Lib.hid (HN3.out.put (o := k * 4 + 2) (by omega) _)
        have EC3 : Hid ((w3.setCell ⟨w.heap.size, k * 4 + 2, none⟩ (.slice b3 (at_ F k).S.length (at_ F k).S.length)).cell? ⟨w.heap.size, k * 4 + 2, none⟩ = some (.slice b3 (at_ F k).S.length (at_ F k).S.length)) := Lib.hid (HN3.out.self hlt (j := 2) (by omega) (.slice b3 (at_ F k).S.length (at_ F k).S.length))
        have HS3 := Lib.hid (Same.set (lo := w.heap.size + 1) w3 (Nat.lt_succ_self w.heap.size) (k * 4 + 2) (.slice b3 (at_ F k).S.length (at_ F k).S.length))
        have HV3 := Lib.hid (HV3.out.same HS3.out)
        have EC1 := Lib.hid ((HN3.out.other (o := k * 4) (o2 := k * 4 + 2) (by omega) (.slice b3 (at_ F k).S.length (at_ F k).S.length)).trans (HK3.out.cell EC1.out))
        have HV1 := Lib.hid ((HV1.out.same (Same.of_kept HK3.out)).same HS3.out)
        have EC2 := Lib.hid ((HN3.out.other (o := k * 4 + 1) (o2 := k * 4 + 2) (by omega) (.slice b3 (at_ F k).S.length (at_ F k).S.length)).trans (HK3.out.cell EC2.out))
        have HV2 := Lib.hid ((HV2.out.same (Same.of_kept HK3.out)).same HS3.out)
        go_upto_region 10 with fail
        generalize w3.setCell ⟨w.heap.size, k * 4 + 2, none⟩ (.slice b3 (at_ F k).S.length (at_ F k).S.length) = u3 at *
        clear y1 y2
        have x4 := Hu3.out.kept.cell HX4.out
        go_wp2_with fail
        refine (C4.out u3 Hu3.out.kept).mono ?_
        rintro e w4 ⟨b4, rfl, own, _, kk⟩
        have HV4 : Hid (RowV (w.heap.size + 1) w4 (.slice b4 (at_ F k).sw.length (at_ F k).sw.length) ((at_ F k).sw.map (Value.int .u8))) := Lib.hid (RowV.of_own own (by obtain ⟨cs, hb, _⟩ := Hu3.out.row; exact hb.lt))
        have HK4 := Lib.hid kk
        have HN4 := Lib.hid (Hu3.out.kept2 kk)
        clear own kk x4
        obtain ⟨vv, y1, y2⟩ := HN4.out.has hlt (o := 3) (by omega)
        skip
        have Hu4 : Hid (Nq w (w4.setCell ⟨w.heap.size, k * 4 + 3, none⟩ (.slice b4 (at_ F k).sw.length (at_ F k).sw.length)) F k) := Lib.hid (HN4.out.put (o := k * 4 + 3) (by omega) _)
        have EC4 : Hid ((w4.setCell ⟨w.heap.size, k * 4 + 3, none⟩ (.slice b4 (at_ F k).sw.length (at_ F k).sw.length)).cell? ⟨w.heap.size, k * 4 + 3, none⟩ = some (.slice b4 (at_ F k).sw.length (at_ F k).sw.length)) := Lib.hid (HN4.out.self hlt (j := 3) (by omega) (.slice b4 (at_ F k).sw.length (at_ F k).sw.length))
        have HS4 := Lib.hid (Same.set (lo := w.heap.size + 1) w4 (Nat.lt_succ_self w.heap.size) (k * 4 + 3) (.slice b4 (at_ F k).sw.length (at_ F k).sw.length))
        have HV4 := Lib.hid (HV4.out.same HS4.out)
        have EC1 := Lib.hid ((HN4.out.other (o := k * 4) (o2 := k * 4 + 3) (by omega) (.slice b4 (at_ F k).sw.length (at_ F k).sw.length)).trans (HK4.out.cell EC1.out))
        have HV1 := Lib.hid ((HV1.out.same (Same.of_kept HK4.out)).same HS4.out)
        have EC2 := Lib.hid ((HN4.out.other (o := k * 4 + 1) (o2 := k * 4 + 3) (by omega) (.slice b4 (at_ F k).sw.length (at_ F k).sw.length)).trans (HK4.out.cell EC2.out))
        have HV2 := Lib.hid ((HV2.out.same (Same.of_kept HK4.out)).same HS4.out)
        have EC3 := Lib.hid ((HN4.out.other (o := k * 4 + 2) (o2 := k * 4 + 3) (by omega) (.slice b4 (at_ F k).sw.length (at_ F k).sw.length)).trans (HK4.out.cell EC3.out))
        have HV3 := Lib.hid ((HV3.out.same (Same.of_kept HK4.out)).same HS4.out)
        have HN := Lib.hid (Hu4.out.close hlt EC1.out EC2.out EC3.out EC4.out HV1.out HV2.out HV3.out HV4.out HZ.out.1 HZ.out.2)
        go_wp2_with fail
        go_roundw
        case rel => exact ⟨k + 1, by omega, by go_num, HN.out⟩
        case measure => simp [intOf]; omega
      · obtain rfl : k = F.length := by omega
        have HX : Hid (IcsC wo (.slice (some ⟨w.heap.size, 0, none⟩) F.length F.length) F) := Lib.hid (Hwo.out.fin hn)
        go_wp2_with fail
        go_ret
        exact ⟨⟨_, rfl, HX.out⟩, Hwo.out.kept⟩
end Go.Proofs.Ytdnpdfiiajjcnaa.ic
