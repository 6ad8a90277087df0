/-
  The contract of zzDecimal over this seat's program: it returns a row of its own that holds the decimal text of n.
  Conditions: n lies between -999999999 and 999999999.
-/
import Derived.Test.YtkmleifkceghlabPlain
import Derived.Test.YtkmleifkceghlabBlk
import Derived.LoopTactic
import Derived.OwnWalk
import Derived.Deep.LoopGhost
namespace Go.Proofs.Ytkmleifkceghlab.decimal
open Go.ChangeShapes Go.WideShapes Go.ChangeAt Go.RowKit
open kit plain

theorem info5 : (Try.prog.info? 5).map (fun i => (i.zero, i.size, i.bytes)) = some (some (.int .u8 0), 1, 1) := by kernel_rfl

/-- what stands when j places are left: the array's block, the digits' value -/
def Inv (N : Int) (B : Nat) (j : Nat) (m : Int) (ds : List Int) (wr : World) : Prop :=
  ∃ pre : List Int, pre.length = j ∧ ds.length = 10 - j ∧ Digits ds ∧ m * 10 ^ (10 - j) + dec ds = N ∧ Blk wr B 47 ((pre ++ ds).map (Value.int .u8))

theorem Inv.start (N : Int) (w : World) : Inv N w.heap.size 10 N [] (w.alloc (Obj.cells #[Value.int IntKind.u8 0, Value.int IntKind.u8 0, Value.int IntKind.u8 0, Value.int IntKind.u8 0, Value.int IntKind.u8 0, Value.int IntKind.u8 0, Value.int IntKind.u8 0, Value.int IntKind.u8 0, Value.int IntKind.u8 0, Value.int IntKind.u8 0] 47)) :=
  ⟨[0, 0, 0, 0, 0, 0, 0, 0, 0, 0], rfl, rfl, (fun _ h => by cases h), (by simp [dec]), Blk.new _ _ _⟩

theorem Inv.step {N : Int} {B j : Nat} {m : Int} {ds : List Int} {wr : World} (h : Inv N B (j + 1) m ds wr) (hj : j + 1 ≤ 10) (hm : 0 ≤ m) :
    (∃ v, wr.cell? ⟨B, j, none⟩ = some (.int .u8 v)) ∧ wr.frozen? ⟨B, j, none⟩ = false ∧ Inv N B j (m / 10) ((48 + m % 10) :: ds) (wr.setCell ⟨B, j, none⟩ (.int .u8 (48 + m % 10))) := by
  obtain ⟨pre, hp, hd, hdd, hv, hb⟩ := h
  obtain ⟨q, x, rfl⟩ : ∃ q x, pre = q ++ [x] := by
    have hne : pre ≠ [] := by intro e; subst e; simp at hp
    exact ⟨pre.dropLast, pre.getLast hne, (List.dropLast_concat_getLast hne).symm⟩
  have hq : q.length = j := by simpa using hp
  refine ⟨⟨x, ?_⟩, hb.free _, q, hq, by simp [hd]; omega, ?_, ?_, ?_⟩
  · rw [hb.cell]; simp [← hq]
  · intro y hy
    rcases List.mem_cons.1 hy with rfl | hy
    · omega
    · exact hdd y hy
  · rw [dec_cons, hd]
    have e1 : 10 - j = (10 - (j + 1)) + 1 := by omega
    rw [e1, Int.pow_succ]
    generalize (10 : Int) ^ (10 - (j + 1)) = P at *
    have e2 : m = 10 * (m / 10) + m % 10 := (Int.mul_ediv_add_emod m 10).symm
    generalize m / 10 = a at *
    generalize m % 10 = b at *
    subst e2
    rw [← hv]
    have e3 : (48 + b - 48) = b := by omega
    rw [e3, Int.add_mul, Int.mul_comm P 10, Int.mul_assoc 10 a P, ← Int.mul_assoc a 10 P, Int.mul_comm a 10, Int.mul_assoc 10 a P]
    omega
  · have := hb.set j (.int .u8 (48 + m % 10))
    have e : ((((q ++ [x]) ++ ds).map (Value.int .u8)).set j (.int .u8 (48 + m % 10))) = ((q ++ (48 + m % 10) :: ds).map (Value.int .u8)) := by
      subst hq
      simp
    rw [e] at this
    exact this

theorem bound {N m : Int} {B j : Nat} {ds : List Int} {wr : World} (h : Inv N B j m ds wr) (hN : N ≤ 999999999) (hm : 1 ≤ m) (hj : j ≤ 10) : 2 ≤ j ∧ m ≤ 999999999 := by
  obtain ⟨pre, hp, hd, hdd, hv, hb⟩ := h
  have h2 := dec_nonneg _ hdd
  have h3 : (1 : Int) ≤ 10 ^ (10 - j) := by
    have : (0 : Int) < 10 ^ (10 - j) := Int.pow_pos (by omega)
    omega
  have h4 : m * 1 ≤ m * 10 ^ (10 - j) := Int.mul_le_mul_of_nonneg_left h3 (by omega)
  refine ⟨?_, by omega⟩
  apply Classical.byContradiction
  intro hn
  have hj2 : j = 0 ∨ j = 1 := by omega
  rcases hj2 with rfl | rfl
  · simp at hv; omega
  · simp at hv; omega

/-- what the function hands back: a row of its own with the text -/
def Back (w : World) (sgn : List Int) (N : Int) (e : Ending) (w' : World) : Prop :=
  ∃ v ds, e = .returned v ∧ Digits ds ∧ 0 < ds.length ∧ ds.length ≤ 10 ∧ dec ds = N ∧ w'.ownsRow w.heap.size 5 1 v (sgn ++ ds).length ((sgn ++ ds).map (Value.int .u8)) ∧ Kept w w'

set_option maxHeartbeats 2000000 in
theorem pos (n : Int) (h0 : 0 ≤ n) (h1 : n ≤ 999999999) (w : World) : Calls Try.prog 12 #[.int .i64 n] w (Back w [] n) := by
  have d0 : decide (n < 0) = false := by simp; omega
  obtain ⟨i0, hi, hz0, hz1, hz2⟩ := info_parts info5
  have hmk : ∀ w : World, (Instr.makeSlice 29 (.int .i64 0) (.int .i64 11)).run Try.prog w = .ok (.slice (some ⟨w.heap.size, 0, none⟩) 0 11) (w.alloc (.cells #[.int .u8 0, .int .u8 0, .int .u8 0, .int .u8 0, .int .u8 0, .int .u8 0, .int .u8 0, .int .u8 0, .int .u8 0, .int .u8 0, .int .u8 0] 5)) := fun _ => by kernel_rfl
  go_enter Try.func12, Try.ntmps12
  go_wp2
  go_loopw [4, 6] (fun t i wr => ∃ (j : Nat) (m : Int) (ds : List Int), j ≤ 10 ∧ 0 ≤ m ∧ (j = 10 ∨ 1 ≤ m) ∧ t = .int .i64 m ∧ i = .int .i64 j ∧ Inv n w.heap.size j m ds wr ∧ Below w.heap.size w wr ∧ wr.heap.size = w.heap.size + 1) (fun _ i _ => (intOf i).toNat)
  case atStart => exact ⟨10, _, [], by omega, by omega, by omega, rfl, rfl, Inv.start _ w, (Below.refl _ _).alloc (Nat.le_refl _) _, by simp⟩
  case round =>
    obtain ⟨j, m, ds, hj, hm0, hm1, rfl, rfl, hinv, hbel, hsz⟩ := hrel
    have hjm : 2 ≤ j ∧ m ≤ 999999999 := by
      rcases hm1 with rfl | hm1
      · refine ⟨by omega, ?_⟩
        obtain ⟨pre, hp, hd, hdd, hv, hb⟩ := hinv
        have : ds = [] := List.eq_nil_of_length_eq_zero (by simpa using hd)
        subst this
        simp [dec] at hv
        omega
      · exact bound hinv (by omega) hm1 hj
    obtain ⟨i, rfl⟩ : ∃ i, j = i + 1 := ⟨j - 1, by omega⟩
    obtain ⟨⟨v0, hc⟩, hf, hinv2⟩ := hinv.step hj hm0
    have hbel2 := Below.setCell hbel (p := ⟨w.heap.size, i, none⟩) (Nat.le_refl _) (.int .u8 (48 + m % 10))
    have HS := Lib.hid hsz
    have HI := Lib.hid hinv2
    have HB := Lib.hid hbel2
    clear hinv hinv2 hbel hbel2 hsz hm1
    by_cases hq : m / 10 = 0
    · have e1 : (m / 10 == 0) = true := by simp [hq]
      have e2 : m.tdiv 10 = 0 := by rw [Int.tdiv_eq_ediv_of_nonneg hm0]; exact hq
      obtain ⟨pre, hpl, hdl, hdd, hdv, hblk⟩ := HI.out
      have hdv2 : dec ((48 + m % 10) :: ds) = n := by rw [hq] at hdv; simpa using hdv
      have HV := Lib.hid hdv2
      have HD := Lib.hid hdl
      have HP := Lib.hid hpl
      have hd1 : 0 < ((48 + m % 10) :: ds).length := by simp
      have hdn : ((48 + m % 10) :: ds).length = 10 - i := hdl
      generalize hE : (48 + m % 10) :: ds = es at *
      clear hdv hdv2 hdl hpl HI
      have HE := Lib.hid hE
      have HDN := Lib.hid hdn
      clear hE hdn
      go_wp2
      go_loopw [7, 8] (fun v t wx => ∃ k : Nat, k ≤ es.length ∧ t = .int .i64 ((i : Int) + k) ∧ wx.ownsRow (w.heap.size + 1) 5 1 v (([] : List Int) ++ es.take k).length ((([] : List Int) ++ es.take k).map (Value.int .u8)) ∧ Blk wx w.heap.size 47 ((pre ++ es).map (Value.int .u8)) ∧ Below w.heap.size w wx ∧ w.heap.size + 1 ≤ wx.heap.size) (fun _ t _ => 10 - (intOf t).toNat)
      case atStart =>
        refine ⟨0, by omega, by simp, ?_, ?_, ?_, ?_⟩
        · simpa using World.ownsRow_made (base := w.heap.size + 1) (e := 5) (size := 1) (wr.setCell ⟨w.heap.size, i, none⟩ (.int .u8 (48 + m % 10))) #[.int .u8 0, .int .u8 0, .int .u8 0, .int .u8 0, .int .u8 0, .int .u8 0, .int .u8 0, .int .u8 0, .int .u8 0, .int .u8 0, .int .u8 0] 11 (by simpa using Nat.le_of_eq HS.out.symm) (by unfold maxLen; omega) rfl
        · exact hblk.alloc _
        · exact HB.out.alloc (by simpa using Nat.le_of_lt (by rw [HS.out]; omega)) _
        · simp [HS.out]
      case round =>
        obtain ⟨k, hk, rfl, hown, hb2, hbelx, hsx⟩ := hrel
        have hdn := HDN.out
        by_cases hlt : k < es.length
        · have hck : wr.cell? ⟨w.heap.size, i + k, none⟩ = some (.int .u8 (es.getD k 0)) := by
            rw [hb2.cell]
            have := HP.out
            simp [this, hlt]
          have hne := hb2.notOwned hown (by decide)
          have HT := Lib.hid (take_snoc es k hlt)
          have hil : (i : Int) + k < 10 := by omega
          generalize es.getD k 0 = x at *
          clear hdn
          go_wp2_with (at_builtin; refine wpList_append_own _ rfl _ _ 29 rfl (w.heap.size + 1) 5 i0 (.int .u8 0) 1 1 Try.underlying29 hi hz0 hz1 hz2 rfl (by decide) _ _ _ rfl (hown.alloc _) ⟨wr.heap.size, 0, none⟩ 1 1 [.int .u8 x] rfl rfl ?c1 ?c2 ?c3 ?c4 ?c5 ?_)
          case c1 => exact cell_one_new _ _ _
          case c2 => intro u hu; simp at hu; subst hu; rfl
          case c3 => have := HDN.out; simp; unfold maxLen; omega
          case c4 => have := HDN.out; simp; omega
          case c5 => simp; omega
          intro v' w1 hown' hgrow _
          go_wp2
          go_roundw
          case rel =>
            have hR : ∃ q : Nat, q ≤ es.length ∧ Value.int .i64 ((i : Int) + k + 1) = .int .i64 ((i : Int) + q) ∧ w1.ownsRow (w.heap.size + 1) 5 1 v' (([] : List Int) ++ es.take q).length ((([] : List Int) ++ es.take q).map (Value.int .u8)) ∧ Blk w1 w.heap.size 47 ((pre ++ es).map (Value.int .u8)) ∧ Below w.heap.size w w1 ∧ w.heap.size + 1 ≤ w1.heap.size := by
              refine ⟨k + 1, by omega, by congr 1, ?_, ?_, ?_, ?_⟩
              · rw [HT.out]
                simpa [Nat.add_assoc, Nat.min_eq_left hk] using hown'
              · exact (hb2.alloc _).grown hgrow (fun e => hne e.symm)
              · exact (hbelx.alloc (by omega) _).grown hgrow (by simp; omega) (fun q hq => by have := hown.lt q hq; omega)
              · have := hgrow.size; simp at this; omega
            first | exact hR | ((repeat apply Exists.intro); exact ⟨hR, rfl⟩)
          case measure => simp [intOf]; omega
        · obtain rfl : k = es.length := by omega
          have HK := Lib.hid (show es.take es.length = es from List.take_length)
          have hdd2 := hdd
          have hil : ¬ ((i : Int) + es.length < 10) := by have := HDN.out; omega
          clear hdn
          go_wp2
          go_ret
          rw [HK.out] at hown
          refine ⟨_, es, rfl, hdd2, hd1, by have := HDN.out; omega, HV.out, own_mono hown (by omega), hbelx⟩

    · have e1 : (m / 10 == 0) = false := by simpa using hq
      have h3 : 2 ≤ i := (bound HI.out (by omega) (by omega) (by omega)).1
      have e2 : ((i : Int) == 0) = false := beq_eq_false_iff_ne.2 (by omega)
      go_wp2
      go_roundw
      case rel => exact ⟨i, m / 10, _, by omega, by omega, .inr (by omega), rfl, (by first | rfl | go_num), HI.out, HB.out, by simpa using HS.out⟩
      case measure => simp [intOf]

set_option maxHeartbeats 2000000 in
theorem neg (n : Int) (h0 : n < 0) (h1 : -999999999 ≤ n) (w : World) : Calls Try.prog 12 #[.int .i64 n] w (Back w [45] (-n)) := by
  have d0 : decide (n < 0) = true := by simp; omega
  obtain ⟨i0, hi, hz0, hz1, hz2⟩ := info_parts info5
  have hmk : ∀ w : World, (Instr.makeSlice 29 (.int .i64 0) (.int .i64 11)).run Try.prog w = .ok (.slice (some ⟨w.heap.size, 0, none⟩) 0 11) (w.alloc (.cells #[.int .u8 0, .int .u8 0, .int .u8 0, .int .u8 0, .int .u8 0, .int .u8 0, .int .u8 0, .int .u8 0, .int .u8 0, .int .u8 0, .int .u8 0] 5)) := fun _ => by kernel_rfl
  go_enter Try.func12, Try.ntmps12
  go_wp2
  go_loopw [4, 6] (fun t i wr => ∃ (j : Nat) (m : Int) (ds : List Int), j ≤ 10 ∧ 0 ≤ m ∧ (j = 10 ∨ 1 ≤ m) ∧ t = .int .i64 m ∧ i = .int .i64 j ∧ Inv (-n) w.heap.size j m ds wr ∧ Below w.heap.size w wr ∧ wr.heap.size = w.heap.size + 1) (fun _ i _ => (intOf i).toNat)
  case atStart => exact ⟨10, _, [], by omega, by omega, by omega, rfl, rfl, Inv.start _ w, (Below.refl _ _).alloc (Nat.le_refl _) _, by simp⟩
  case round =>
    obtain ⟨j, m, ds, hj, hm0, hm1, rfl, rfl, hinv, hbel, hsz⟩ := hrel
    have hjm : 2 ≤ j ∧ m ≤ 999999999 := by
      rcases hm1 with rfl | hm1
      · refine ⟨by omega, ?_⟩
        obtain ⟨pre, hp, hd, hdd, hv, hb⟩ := hinv
        have : ds = [] := List.eq_nil_of_length_eq_zero (by simpa using hd)
        subst this
        simp [dec] at hv
        omega
      · exact bound hinv (by omega) hm1 hj
    obtain ⟨i, rfl⟩ : ∃ i, j = i + 1 := ⟨j - 1, by omega⟩
    obtain ⟨⟨v0, hc⟩, hf, hinv2⟩ := hinv.step hj hm0
    have hbel2 := Below.setCell hbel (p := ⟨w.heap.size, i, none⟩) (Nat.le_refl _) (.int .u8 (48 + m % 10))
    have HS := Lib.hid hsz
    have HI := Lib.hid hinv2
    have HB := Lib.hid hbel2
    clear hinv hinv2 hbel hbel2 hsz hm1
    by_cases hq : m / 10 = 0
    · have e1 : (m / 10 == 0) = true := by simp [hq]
      have e2 : m.tdiv 10 = 0 := by rw [Int.tdiv_eq_ediv_of_nonneg hm0]; exact hq
      obtain ⟨pre, hpl, hdl, hdd, hdv, hblk⟩ := HI.out
      have hdv2 : dec ((48 + m % 10) :: ds) = (-n) := by rw [hq] at hdv; simpa using hdv
      have HV := Lib.hid hdv2
      have HD := Lib.hid hdl
      have HP := Lib.hid hpl
      have hd1 : 0 < ((48 + m % 10) :: ds).length := by simp
      have hdn : ((48 + m % 10) :: ds).length = 10 - i := hdl
      generalize hE : (48 + m % 10) :: ds = es at *
      clear hdv hdv2 hdl hpl HI
      have HE := Lib.hid hE
      have HDN := Lib.hid hdn
      clear hE hdn
      have hown0 : ((wr.setCell ⟨w.heap.size, i, none⟩ (.int .u8 (48 + m % 10))).alloc (.cells #[.int .u8 0, .int .u8 0, .int .u8 0, .int .u8 0, .int .u8 0, .int .u8 0, .int .u8 0, .int .u8 0, .int .u8 0, .int .u8 0, .int .u8 0] 5)).ownsRow (w.heap.size + 1) 5 1 (.slice (some ⟨wr.heap.size, 0, none⟩) 0 11) 0 [] := by simpa using World.ownsRow_made (base := w.heap.size + 1) (e := 5) (size := 1) (wr.setCell ⟨w.heap.size, i, none⟩ (.int .u8 (48 + m % 10))) #[.int .u8 0, .int .u8 0, .int .u8 0, .int .u8 0, .int .u8 0, .int .u8 0, .int .u8 0, .int .u8 0, .int .u8 0, .int .u8 0, .int .u8 0] 11 (by simpa using Nat.le_of_eq HS.out.symm) (by unfold maxLen; omega) rfl
      go_wp2_with (at_builtin; refine wpList_append_own _ rfl _ _ 29 rfl (w.heap.size + 1) 5 i0 (.int .u8 0) 1 1 Try.underlying29 hi hz0 hz1 hz2 rfl (by decide) _ _ _ rfl (hown0.alloc _) ⟨wr.heap.size + 1, 0, none⟩ 1 1 [.int .u8 45] rfl rfl ?s1 ?s2 ?s3 ?s4 ?s5 ?_)
      case s1 => simpa using cell_one_new ((wr.setCell ⟨w.heap.size, i, none⟩ (.int .u8 (48 + m % 10))).alloc (.cells #[.int .u8 0, .int .u8 0, .int .u8 0, .int .u8 0, .int .u8 0, .int .u8 0, .int .u8 0, .int .u8 0, .int .u8 0, .int .u8 0, .int .u8 0] 5)) (.int .u8 45) 5
      case s2 => intro u hu; simp at hu; subst hu; rfl
      case s3 => unfold maxLen; omega
      case s4 => omega
      case s5 => simp; have := HS.out; omega
      intro v' w1 hown' hgrow _
      have hbel3 : Below w.heap.size w w1 := ((HB.out.alloc (by simpa using Nat.le_of_lt (by rw [HS.out]; omega)) _).alloc (by have := HS.out; simp; omega) _).grown hgrow (by have := HS.out; simp; omega) (fun q hq => by have := hown0.lt q hq; omega)
      have hblk3 := ((hblk.alloc (.cells #[.int .u8 0, .int .u8 0, .int .u8 0, .int .u8 0, .int .u8 0, .int .u8 0, .int .u8 0, .int .u8 0, .int .u8 0, .int .u8 0, .int .u8 0] 5)).alloc (.cells #[.int .u8 45] 5)).grown hgrow (fun e => by simp [Value.ownBlock, HS.out] at e)
      have hsz3 : w.heap.size + 1 ≤ w1.heap.size := by have := hgrow.size; have h2 := HS.out; simp at this; omega
      have HO3 := Lib.hid hown'
      have HG3 := Lib.hid hgrow
      clear hown' hgrow
      go_wp2
      go_loopw [7, 8] (fun v t wx => ∃ k : Nat, k ≤ es.length ∧ t = .int .i64 ((i : Int) + k) ∧ wx.ownsRow (w.heap.size + 1) 5 1 v (([45] : List Int) ++ es.take k).length ((([45] : List Int) ++ es.take k).map (Value.int .u8)) ∧ Blk wx w.heap.size 47 ((pre ++ es).map (Value.int .u8)) ∧ Below w.heap.size w wx ∧ w.heap.size + 1 ≤ wx.heap.size) (fun _ t _ => 10 - (intOf t).toNat)
      case atStart =>
        refine ⟨0, by omega, by simp, ?_, ?_, ?_, ?_⟩
        · simpa using HO3.out
        · exact hblk3
        · exact hbel3
        · exact hsz3
      case round =>
        obtain ⟨k, hk, rfl, hown, hb2, hbelx, hsx⟩ := hrel
        have hdn := HDN.out
        by_cases hlt : k < es.length
        · have hck : wr.cell? ⟨w.heap.size, i + k, none⟩ = some (.int .u8 (es.getD k 0)) := by
            rw [hb2.cell]
            have := HP.out
            simp [this, hlt]
          have hne := hb2.notOwned hown (by decide)
          have HT := Lib.hid (take_snoc es k hlt)
          have hil : (i : Int) + k < 10 := by omega
          generalize es.getD k 0 = x at *
          clear hdn
          go_wp2_with (at_builtin; refine wpList_append_own _ rfl _ _ 29 rfl (w.heap.size + 1) 5 i0 (.int .u8 0) 1 1 Try.underlying29 hi hz0 hz1 hz2 rfl (by decide) _ _ _ rfl (hown.alloc _) ⟨wr.heap.size, 0, none⟩ 1 1 [.int .u8 x] rfl rfl ?c1 ?c2 ?c3 ?c4 ?c5 ?_)
          case c1 => exact cell_one_new _ _ _
          case c2 => intro u hu; simp at hu; subst hu; rfl
          case c3 => have := HDN.out; simp; unfold maxLen; omega
          case c4 => have := HDN.out; simp; omega
          case c5 => simp; omega
          intro v' w1 hown' hgrow _
          go_wp2
          go_roundw
          case rel =>
            have hR : ∃ q : Nat, q ≤ es.length ∧ Value.int .i64 ((i : Int) + k + 1) = .int .i64 ((i : Int) + q) ∧ w1.ownsRow (w.heap.size + 1) 5 1 v' (([45] : List Int) ++ es.take q).length ((([45] : List Int) ++ es.take q).map (Value.int .u8)) ∧ Blk w1 w.heap.size 47 ((pre ++ es).map (Value.int .u8)) ∧ Below w.heap.size w w1 ∧ w.heap.size + 1 ≤ w1.heap.size := by
              refine ⟨k + 1, by omega, by congr 1, ?_, ?_, ?_, ?_⟩
              · rw [HT.out]
                simpa [Nat.add_assoc, Nat.min_eq_left hk] using hown'
              · exact (hb2.alloc _).grown hgrow (fun e => hne e.symm)
              · exact (hbelx.alloc (by omega) _).grown hgrow (by simp; omega) (fun q hq => by have := hown.lt q hq; omega)
              · have := hgrow.size; simp at this; omega
            first | exact hR | ((repeat apply Exists.intro); exact ⟨hR, rfl⟩)
          case measure => simp [intOf]; omega
        · obtain rfl : k = es.length := by omega
          have HK := Lib.hid (show es.take es.length = es from List.take_length)
          have hdd2 := hdd
          have hil : ¬ ((i : Int) + es.length < 10) := by have := HDN.out; omega
          clear hdn
          go_wp2
          go_ret
          rw [HK.out] at hown
          refine ⟨_, es, rfl, hdd2, hd1, by have := HDN.out; omega, HV.out, own_mono hown (by omega), hbelx⟩

    · have e1 : (m / 10 == 0) = false := by simpa using hq
      have h3 : 2 ≤ i := (bound HI.out (by omega) (by omega) (by omega)).1
      have e2 : ((i : Int) == 0) = false := beq_eq_false_iff_ne.2 (by omega)
      go_wp2
      go_roundw
      case rel => exact ⟨i, m / 10, _, by omega, by omega, .inr (by omega), rfl, (by first | rfl | go_num), HI.out, HB.out, by simpa using HS.out⟩
      case measure => simp [intOf]
end Go.Proofs.Ytkmleifkceghlab.decimal
