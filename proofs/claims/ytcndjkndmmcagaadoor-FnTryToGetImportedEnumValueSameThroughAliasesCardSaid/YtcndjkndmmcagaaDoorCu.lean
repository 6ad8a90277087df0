/-
  The law's copying helper for slices of slices of code units over this seat's program.
  Conditions: the slices are readable and short.
-/
import Derived.Test.YtcndjkndmmcagaaDoorSl
import Derived.Test.YtcndjkndmmcagaaDoorGd
import Derived.Test.YtcndjkndmmcagaaDoorCloneU16
namespace Go.Proofs.YtcndjkndmmcagaaDoor.mp
open Go.ChangeShapes Go.WideShapes Go.ChangeAt Go.RowKit
open kit

theorem infoU : (Tryd.prog.info? 43).map (fun i => (i.zero, i.size, i.bytes)) = some (some (.slice none 0 0), 1, 24) := by kernel_rfl
def ClonedU (w : World) (n : Nat) (e : Ending) (w' : World) : Prop := ∃ (a' : Option Addr) (vs : List Value), e = .returned (.slice a' n n) ∧ Rows16 w' a' n vs ∧ Kept w w'
theorem getD_nil {vs : List Value} {i : Nat} (h : vs.length ≤ i) : vs.getD i (.slice none 0 0) = .slice none 0 0 := by
  rw [List.getD_eq_getElem?_getD, List.getElem?_eq_none h]; rfl
/-- readable, and in another block than B -/
def Off (W : World) (B : Nat) (v : Value) : Prop := ∃ a n c zs, v = .slice a n c ∧ Row W a n c ((zs : List Int).map (Value.int .u16)) ∧ ∀ b, a.map (·.block) = some b → b ≠ B
theorem Off.kept {w w2 : World} {B : Nat} {v : Value} (h : Off w B v) (k : Kept w w2) : Off w2 B v := by
  obtain ⟨a, n, c, zs, e, hr, hb⟩ := h
  exact ⟨a, n, c, zs, e, hr.kept k, hb⟩
theorem Off.set {w : World} {B : Nat} {v : Value} (h : Off w B v) (i : Nat) (u : Value) : Off (w.setCell ⟨B, i, none⟩ u) B v := by
  obtain ⟨a, n, c, zs, e, hr, hb⟩ := h
  exact ⟨a, n, c, zs, e, hr.far (by simp [World.setCell]) (fun b _ hab => Below.heap_setCell w ⟨B, i, none⟩ u b (hb b hab)), hb⟩
theorem Off.nil (W : World) (B : Nat) : Off W B (.slice none 0 0) := ⟨none, 0, 0, [], rfl, Row.nil W, fun b h => by cases h⟩
theorem Off.units {W : World} {B : Nat} {v : Value} (h : Off W B v) : Units W v := by
  obtain ⟨a, n, c, zs, e, hr, _⟩ := h
  exact ⟨a, n, c, zs, e, hr⟩
def L12 (w : World) (n : Nat) (t : Value) (wr : World) : Prop := ∃ (k : Nat) (vs : List Value), k ≤ n ∧ t = .int .i64 (k : Int) ∧ vs.length = n ∧ Blk wr w.heap.size 43 vs ∧ (∀ i, i < n → Off wr w.heap.size (vs.getD i (.slice none 0 0))) ∧ Kept w wr
set_option maxRecDepth 100000 in
set_option maxHeartbeats 4000000 in
theorem cloneUs (A : Option Addr) (n cap : Nat) (vs : List Value) (w : World) (hr : Rows16 w A n vs) (hs : SmallU n vs) (hz : A = none → n = 0) (hn : n ≤ 65536) : Calls Tryd.prog 12 #[.slice A n cap] w (ClonedU w n) := by
  have heq := fun w : World => Go.run_eql_slice_nil (P := Tryd.prog) w 26 43 A n cap Tryd.underlying26
  have HR := Lib.hid hr
  have HSM := Lib.hid hs
  clear hr hs
  rcases A with _ | ad
  · obtain rfl : n = 0 := hz rfl
    simp only [Option.isNone] at heq
    clear hz
    go_enter Tryd.func12, Tryd.ntmps12
    go_wp2
    go_ret
    exact ⟨none, [], rfl, ⟨rfl, fun i hi => absurd hi (by omega), fun h => absurd h (by omega)⟩, Kept.refl _⟩
  · simp only [Option.isNone] at heq
    clear hz
    have hmk := fun wx : World => run_make_row' (P := Tryd.prog) 26 43 (.slice none 0 0) 24 Tryd.underlying26 infoU rfl .i64 .i64 n (by omega) (by omega) wx
    have hmc : (madeCells #[Value.slice none 0 0] n).toList = List.replicate n (.slice none 0 0) := toList_madeCells_one _ n
    have HM := Lib.hid hmc
    clear hmc
    generalize hC : madeCells #[Value.slice none 0 0] n = C at *
    have hC0 := Lib.hid hC
    clear hC
    have HL0 : Hid (L12 w n (.int .i64 0) (w.alloc (.cells C 43))) := Lib.hid ⟨0, List.replicate n (.slice none 0 0), by omega, rfl, by simp, by
      have e : C = (List.replicate n (Value.slice none 0 0)).toArray := by rw [← Array.toList_inj, HM.out]
      rw [e]; exact Blk.new _ _ _, fun i hi => by
      have e : (List.replicate n (Value.slice none 0 0)).getD i (.slice none 0 0) = .slice none 0 0 := by simp [hi]
      rw [e]; exact Off.nil _ _, (Kept.refl _).alloc _⟩
    go_enter Tryd.func12, Tryd.ntmps12
    go_wp2
    go_loopw [4] (fun t wr => L12 w n t wr) (fun t _ => n - (intOf t).toNat)
    case atStart => exact HL0.out
    case round =>
      obtain ⟨k, us, hk, rfl, hul, hb, hg, hkept⟩ := hrel
      clear HL0 hmk
      by_cases hlt : k < n
      · obtain ⟨b, off, hA, hbl, hcell⟩ := HR.out.2.2 (by omega)
        injection hA with hA
        subst hA
        obtain ⟨ax, nx, cx, zx, ex, rx⟩ := HR.out.2.1 k hlt
        have hck := hkept.cell (hcell k hlt)
        rw [ex] at hck
        have hnx : nx ≤ 1048576 := by
          obtain ⟨a1, k1, c1, e1, h1⟩ := HSM.out k hlt
          rw [ex] at e1
          injection e1 with _ e2 _
          omega
        have HC := Lib.hid (cloneU16.run ax nx cx zx wr (rx.kept hkept) (by omega))
        have HB := Lib.hid hb
        have HG := Lib.hid hg
        have HK := Lib.hid hkept
        have hki : (k : Int) < (n : Int) := by omega
        clear hcell hb hg hkept hbl rx ex
        go_wp2_with fail
        refine HC.out.mono ?_
        rintro e w2 ⟨a2, rfl, o2, _, k2⟩
        have hcw : ∃ u, w2.cell? ⟨w.heap.size, k, none⟩ = some u := ⟨_, ((HB.out.kept k2).cell k).trans (List.getElem?_eq_getElem (by omega))⟩
        obtain ⟨u0, hcw⟩ := hcw
        have hu0 : ∃ a n c, u0 = .slice a n c := by
          have := ((HB.out.kept k2).cell k)
          rw [hcw, List.getElem?_eq_getElem (by omega)] at this
          obtain ⟨a, n, c, zs, e, _⟩ := HG.out k hlt
          have e2 : us.getD k (.slice none 0 0) = us[k]'(by omega) := by simp [show k < us.length by omega]
          rw [e2] at e
          exact ⟨a, n, c, (Option.some.inj this).trans e⟩
        obtain ⟨a0, n0, c0, rfl⟩ := hu0
        have hfw := (HB.out.kept k2).free k
        have HRR : Hid (L12 w n (.int .i64 ((k : Int) + 1)) (w2.setCell ⟨w.heap.size, k, none⟩ (.slice a2 nx nx))) := Lib.hid ⟨k + 1, us.set k (.slice a2 nx nx), by omega, by go_num, by simpa using hul, (HB.out.kept k2).set k _, fun i hi => by
          by_cases e : i = k
          · subst e
            rw [show (us.set i (.slice a2 nx nx)).getD i (.slice none 0 0) = .slice a2 nx nx by simp [show i < us.length by omega]]
            exact Off.set ⟨a2, nx, nx, zx, rfl, Row.of_own o2, fun b hb => by have := (own_lt o2 b hb).1; have := HB.out.lt; omega⟩ _ _
          · have e2 : (us.set k (.slice a2 nx nx)).getD i (.slice none 0 0) = us.getD i (.slice none 0 0) := by simp [List.getD_eq_getElem?_getD, List.getElem?_set_ne (Ne.symm e)]
            rw [e2]
            exact ((HG.out i hi).kept k2).set _ _, (HK.out.trans k2).setCell (Nat.le_refl _) _⟩
        go_wp2_with fail
        go_roundw
        case rel => first | exact HRR.out | ((repeat apply Exists.intro); exact ⟨HRR.out, rfl⟩)
        case measure => simp [intOf]; omega
      · obtain rfl : k = n := by omega
        go_wp2_with fail
        go_ret
        refine ⟨some ⟨w.heap.size, 0, none⟩, us, rfl, ⟨hul, fun i hi => (hg i hi).units, fun _ => ⟨w.heap.size, 0, rfl, hb.lt, fun i hi => ?_⟩⟩, hkept⟩
        rw [Nat.zero_add, hb.cell, List.getElem?_eq_getElem (by omega)]
        simp [show i < us.length by omega]
end Go.Proofs.YtcndjkndmmcagaaDoor.mp
