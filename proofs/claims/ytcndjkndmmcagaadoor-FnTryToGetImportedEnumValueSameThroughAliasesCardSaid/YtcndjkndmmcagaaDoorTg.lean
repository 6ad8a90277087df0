/-
  The printer's tryToGetImportedEnumValue over this seat's program, its target an import.
  Conditions: the chain from the ref ends; ast.InvalidRef holds its initial value.
-/
import Derived.Test.YtcndjkndmmcagaaDoorBe
import Derived.Test.YtcndjkndmmcagaaDoorFollow
namespace Go.Proofs.YtcndjkndmmcagaaDoor.mp
open Go.ChangeShapes Go.WideShapes Go.ChangeAt Go.RowKit
open kit chain arena
open Go.Maps (Keyed)
open Go.ChangeMaps (setBlock)

def zeroV : Value := .agg #[.slice none 0 0, .float .f64 0]
/-- the printer in block gp, its target's expression in block ge -/
structure Prn (w : World) (gp M g S : Nat) (bk : Nat → Nat) (F : Value → Option Value) : Prop where
  syms : w.cell? ⟨gp, 0, none⟩ = some (.slice (some ⟨g, 0, none⟩) S S)
  tab : w.cell? ⟨gp, 13, none⟩ = some (.map (some M))
  map : ∃ m, mapf.MapF Tryd.prog 50 w M m F
  nep : ∀ s, s < S → bk s ≠ gp
  nem : ∀ s, s < S → bk s ≠ M
theorem Prn.turn {w w2 : World} {gp M g S : Nat} {bk : Nat → Nat} {F : Value → Option Value} (h : Prn w gp M g S bk F) (t : Turn w w2 bk S) : Prn w2 gp M g S bk F := by
  obtain ⟨m, hm⟩ := h.map
  exact ⟨t.cell h.syms h.nep, t.cell h.tab h.nep, ⟨m, hm.of_block (t.block M hm.lt h.nem)⟩, h.nep, h.nem⟩
/-- what the table answers for this root -/
def Ans (w : World) (S : Nat) (bk : Nat → Nat) (F : Value → Option Value) (rr kind : Nat) (nm : ByteArray) (V : Value) (ok : Bool) : Prop :=
  (kind ≠ 19 ∧ V = zeroV ∧ ok = false) ∨ (kind = 19 ∧ F (key rr) = none ∧ V = zeroV ∧ ok = false) ∨
  (kind = 19 ∧ ∃ mb m f, F (key rr) = some (.map (some mb)) ∧ mapf.MapF Tryd.prog 9 w mb m f ∧ (∀ s, s < S → bk s ≠ mb) ∧ V = (f (.string nm)).getD zeroV ∧ ok = (f (.string nm)).isSome)
theorem Ans.turn {w w2 : World} {S : Nat} {bk : Nat → Nat} {F : Value → Option Value} {rr kind : Nat} {nm : ByteArray} {V : Value} {ok : Bool} (h : Ans w S bk F rr kind nm V ok) (t : Turn w w2 bk S) : Ans w2 S bk F rr kind nm V ok := by
  rcases h with h | h | ⟨hk, mb, m, f, h1, h2, h3, h4, h5⟩
  · exact .inl h
  · exact .inr (.inl h)
  · exact .inr (.inr ⟨hk, mb, m, f, h1, h2.of_block (t.block mb h2.lt h3), h3, h4, h5⟩)
/-- behind FollowSymbols: the root's ref in block n6, the result's variable in block q -/
structure Aft (w w3 : World) (g : Nat) (bk : Nat → Nat) (S : Nat) (τ : Tab) (n6 q rr : Nat) : Prop where
  ar : Arena w3 g bk S τ
  tu : Turn w w3 bk S
  new : Blk w3 n6 50 [.int .u32 0, .int .u32 (rr : Int)]
  res : Blk w3 q 46 [.slice none 0 0, .float .f64 0]
  le : q < n6 ∧ w.heap.size ≤ q
  lt : g < w.heap.size ∧ ∀ s, s < S → bk s < w.heap.size
theorem aft1 {w w2 w' : World} {g : Nat} {bk : Nat → Nat} {S : Nat} {τ : Tab} {q rr : Nat} (hq : w.heap.size ≤ q) (hk : Kept w w2) (hb : Blk w2 q 46 [.slice none 0 0, .float .f64 0]) (hl : g < w.heap.size ∧ ∀ s, s < S → bk s < w.heap.size) (hA : Arena w' g bk S τ) (hT : Turn w2.drew w' bk S) :
    Aft w (w'.alloc (.cells #[.int .u32 0, .int .u32 (rr : Int)] 50)) g bk S τ w'.heap.size q rr := by
  have b2 : Blk w' q 46 [.slice none 0 0, .float .f64 0] := hT.blk hb.drew (fun s hs => by have := hl.2 s hs; omega)
  exact ⟨hA.kept ((Kept.refl _).alloc _), ((Turn.of_kept hk.drew bk S).trans hT).alloc _, Blk.new w' 50 [.int .u32 0, .int .u32 (rr : Int)], b2.alloc _, ⟨b2.lt, hq⟩, hl⟩
theorem aft2 {w w2 w' : World} {g : Nat} {bk : Nat → Nat} {S : Nat} {τ : Tab} {q rr : Nat} (hq : w.heap.size ≤ q) (hk : Kept w w2) (hb : Blk w2 q 46 [.slice none 0 0, .float .f64 0]) (hl : g < w.heap.size ∧ ∀ s, s < S → bk s < w.heap.size) (hA : Arena w' g bk S τ)
    (hT : Turn (w2.alloc (.cells #[.int .u32 0, .int .u32 0] 50)).drew w' bk S) :
    Aft w ((w'.setCell ⟨w2.heap.size, 0, none⟩ (.int .u32 0)).setCell ⟨w2.heap.size, 1, none⟩ (.int .u32 (rr : Int))) g bk S τ w2.heap.size q rr := by
  have hlt := hb.lt
  have b2 : Blk w' q 46 [.slice none 0 0, .float .f64 0] := hT.blk (hb.alloc _).drew (fun s hs => by have := hl.2 s hs; omega)
  have b6 : Blk w' w2.heap.size 50 [.int .u32 0, .int .u32 0] := hT.blk (Blk.new w2 50 [.int .u32 0, .int .u32 0]).drew (fun s hs => by have := hl.2 s hs; omega)
  have hs2 : w.heap.size ≤ w2.heap.size := hk.size
  have hg := hl.1
  refine ⟨?_, ?_, ?_, ?_, ⟨hlt, hq⟩, hl⟩
  · refine (hA.far ?_ ?_ _).far ?_ ?_ _
    · show g ≠ w2.heap.size; omega
    · intro s hs; have := hl.2 s hs; show bk s ≠ w2.heap.size; omega
    · show g ≠ w2.heap.size; omega
    · intro s hs; have := hl.2 s hs; show bk s ≠ w2.heap.size; omega
  · exact (((Turn.of_kept (hk.alloc _).drew bk S).trans hT).setNew (by show _ ≤ w2.heap.size; omega) _).setNew (by show _ ≤ w2.heap.size; omega) _
  · exact (b6.set 0 (.int .u32 0)).set 1 (.int .u32 (rr : Int))
  · exact (b2.far (by show q ≠ w2.heap.size; omega) _).far (by show q ≠ w2.heap.size; omega) _
def Got (w : World) (bk : Nat → Nat) (S : Nat) (V : Value) (ok : Bool) (g : Nat) (τ : Tab) (e : Ending) (w' : World) : Prop := e = .returned (.tuple #[V, .bool ok]) ∧ Turn w w' bk S ∧ Arena w' g bk S τ
def C3 (w : World) (g : Nat) (bk : Nat → Nat) (S : Nat) (τ : Tab) (q rr : Nat) (t10 : Value) (W : World) : Prop := ∃ n6, t10 = .pointer (some ⟨n6, 0, none⟩) ∧ Aft w W g bk S τ n6 q rr

set_option maxRecDepth 100000 in
set_option maxHeartbeats 8000000 in
theorem tryGet (w : World) (gp ge M g : Nat) (bk : Nat → Nat) (S : Nat) (σ : Tab) (d : Nat) (p : Ref) (rr : Nat) (F : Value → Option Value) (nm : ByteArray) (a0 : Option Addr) (n0 c0 x : Nat) (ok : Bool) (h : Arena w g bk S σ) (hI : Inv w) (hz : ∀ s, s < S → bk s ≠ 0) (hc : Chain S σ d p (0, rr)) (hP : Prn w gp M g S bk F)
    (he0 : w.cell? ⟨ge, 0, none⟩ = some (.int .u32 (p.1 : Int))) (he1 : w.cell? ⟨ge, 1, none⟩ = some (.int .u32 (p.2 : Int))) (hee : ∀ s, s < S → bk s ≠ ge)
    (hr2 : rr ≤ 4294967295) (hns : nm.size ≤ 1048576) (hx : Ans w S bk F rr (symAt σ (0, rr)).kind nm (.agg #[.slice a0 n0 c0, .float .f64 x]) ok) :
    Calls Tryd.prog 21 #[.pointer (some ⟨gp, 0, none⟩), .agg #[.iface 107 (.pointer (some ⟨ge, 0, none⟩)), .int .i32 0], .string nm] w (Got w bk S (.agg #[.slice a0 n0 c0, .float .f64 x]) ok g (relink σ (path σ d p) (0, rr))) := by
  have hvr := hc.root.valid
  have HF := Lib.hid (fun (W : World) (k : Kept w W) (k0 : W.cell? ⟨gp, 0, none⟩ = some (.slice (some ⟨g, 0, none⟩) S S)) (k1 : W.cell? ⟨ge, 0, none⟩ = some (.int .u32 (p.1 : Int))) (k2 : W.cell? ⟨ge, 1, none⟩ = some (.int .u32 (p.2 : Int))) (n6 : Nat) (hn6 : Hid (∀ s, s < S → bk s ≠ n6)) =>
    (arena.follow g bk S σ (0, rr) hz d p W (h.kept k) (hI.kept k) hc).mono (fun e w' (f : arena.Followed W g bk S σ d p (0, rr) e w') => (show e = .returned (.agg #[.int .u32 0, .int .u32 (rr : Int)]) ∧ w'.cell? ⟨gp, 0, none⟩ = some (.slice (some ⟨g, 0, none⟩) S S) ∧ w'.cell? ⟨ge, 0, none⟩ = some (.int .u32 (p.1 : Int)) ∧ w'.cell? ⟨ge, 1, none⟩ = some (.int .u32 (p.2 : Int)) ∧
      (W.cell? ⟨n6, 0, none⟩ = some (.int .u32 0) → w'.cell? ⟨n6, 0, none⟩ = some (.int .u32 0) ∧ w'.frozen? ⟨n6, 0, none⟩ = W.frozen? ⟨n6, 0, none⟩) ∧ (W.cell? ⟨n6, 1, none⟩ = some (.int .u32 0) → w'.cell? ⟨n6, 1, none⟩ = some (.int .u32 0) ∧ w'.frozen? ⟨n6, 1, none⟩ = W.frozen? ⟨n6, 1, none⟩) ∧
      Hid (Arena w' g bk S (relink σ (path σ d p) (0, rr))) ∧ Hid (Turn W w' bk S) from by
    obtain ⟨f1, f2, f3⟩ := f
    exact ⟨f1, f3.cell k0 hP.nep, f3.cell k1 hee, f3.cell k2 hee, f3.at n6 hn6.out 0 _, f3.at n6 hn6.out 1 _, Lib.hid f2, Lib.hid f3⟩)))
  unfold mapV refV at HF
  have HG := Lib.hid (fun (W : World) (hA : Arena W g bk S (relink σ (path σ d p) (0, rr))) => (arena.get W g bk S _ (0, rr) hA ((relink_valid ..).2 hvr)))
  unfold mapV refV at HG
  have HV := Lib.hid hvr
  have HPr := Lib.hid hP
  have HX := Lib.hid hx
  have HKD : Hid ((symAt (relink σ (path σ d p) (0, rr)) (0, rr)).kind = (symAt σ (0, rr)).kind) := Lib.hid (relink_kind σ _ _ hvr)
  have HKV : Hid (Valid S (relink σ (path σ d p) (0, rr)) (0, rr)) := Lib.hid ((relink_valid ..).2 hvr)
  have HBL := Lib.hid (show g < w.heap.size ∧ ∀ s, s < S → bk s < w.heap.size from ⟨h.outer.lt, fun s hs => h.lt hs⟩)
  have hsz := World.block_lt_of_cell? w _ hP.syms
  have hez := World.block_lt_of_cell? w _ he0
  have HC0 := Lib.hid hP.syms
  have HC1 := Lib.hid he0
  have HC2 := Lib.hid he1
  have ta : ∀ W : World, (Instr.typeAssert (.iface 107 (.pointer (some ⟨ge, 0, none⟩))) 88 107 true).run Tryd.prog W = .ok (.tuple #[.pointer (some ⟨ge, 0, none⟩), .bool true]) W := fun W => by kernel_rfl
  generalize relink σ (path σ d p) (0, rr) = τ at *
  clear h hI hz hc hvr hP hx he0 he1 hee
  go_enter Tryd.func21, Tryd.ntmps21
  go_upto_region 3 with fail
  obtain ⟨w1, hw1⟩ : ∃ w1, w1 = (w.alloc (.cells #[.iface 107 (.pointer (some ⟨ge, 0, none⟩)), .int .i32 0] 111)).alloc (.cells #[.slice none 0 0, .float .f64 0] 46) := ⟨_, rfl⟩
  have K1 : Hid (Kept w w1) := Lib.hid (by rw [hw1]; exact ((Kept.refl w).alloc _).alloc _)
  have B1 : Hid (Blk w1 (w.heap.size + 1) 46 [.slice none 0 0, .float .f64 0]) := Lib.hid (by
    rw [hw1]
    have := Blk.new (w.alloc (.cells #[.iface 107 (.pointer (some ⟨ge, 0, none⟩)), .int .i32 0] 111)) 46 [.slice none 0 0, .float .f64 0]
    simpa using this)
  rw [← hw1]
  clear hw1 ta
  generalize hq : w.heap.size + 1 = q at *
  have HQ : Hid (w.heap.size ≤ q) := Lib.hid (by omega)
  clear hq
  have x0 := K1.out.cell HC0.out
  have x1 := K1.out.cell HC1.out
  have x2 := K1.out.cell HC2.out
  have n0 := World.new_ne w1 ⟨gp, 0, none⟩ x0
  have n1 := World.new_ne w1 ⟨ge, 0, none⟩ x1
  have HN6 : Hid (∀ s, s < S → bk s ≠ w1.heap.size) := Lib.hid (fun s hs => by have := HBL.out.2 s hs; have := K1.out.size; omega)
  go_cut [10] (fun t10 W => Hid (C3 w g bk S τ q rr t10 W))
  case first =>
    go_region_held3 (fun W => W.cell? ⟨gp, 0, none⟩ = some (.slice (some ⟨g, 0, none⟩) S S) ∧ W.cell? ⟨ge, 0, none⟩ = some (.int .u32 (p.1 : Int)) ∧ W.cell? ⟨ge, 1, none⟩ = some (.int .u32 (p.2 : Int))) (first | go_keep)
      (first | (go_at_call 24; refine (HF.out _ ?_ ?_ ?_ ?_ w1.heap.size HN6).mono ?_; (repeat (first | exact K1.out | apply Kept.drew | apply Kept.alloc)); (simp [*]); (simp [*]); (simp [*]); rintro e w' ⟨rfl, t0, t1, t2, u0, u1, hA, hT⟩))
    all_goals
      first
      | have HAF := Lib.hid (aft1 (rr := rr) HQ.out K1.out B1.out HBL.out hA.out hT.out)
        go_wp2_with fail
        go_meet
        exact Lib.hid ⟨_, rfl, HAF.out⟩
      | have HAF := Lib.hid (aft2 (rr := rr) HQ.out K1.out B1.out HBL.out hA.out hT.out)
        go_wp2_with fail
        go_meet
        exact Lib.hid ⟨_, rfl, HAF.out⟩
  case rest =>
    obtain ⟨n6, rfl, hcc⟩ := hcut.out
    have HAF := Lib.hid hcc
    clear hcut hcc x0 x1 x2 n0 n1 HN6 HF K1 B1
    have HP3 := Lib.hid (HPr.out.turn HAF.out.tu)
    have y0 := HP3.out.syms
    have y1 : wc.cell? ⟨n6, 0, none⟩ = some (.int .u32 0) := HAF.out.new.cell 0
    have y2 : wc.cell? ⟨n6, 1, none⟩ = some (.int .u32 (rr : Int)) := HAF.out.new.cell 1
    go_upto_region 4 with fail
    go_still_tail 5, (by kernel_rfl)
    change wpList _ _ _ _ _ wc.drew
    have kk := (Kept.refl wc).drew
    have HA4 := Lib.hid (HAF.out.ar.kept kk)
    have HT4 := Lib.hid (HAF.out.tu.drew)
    have HR4 := Lib.hid (HAF.out.res.kept kk)
    have HB4 := Lib.hid (HAF.out.new.kept kk)
    have HL := Lib.hid (show w.heap.size ≤ q from HAF.out.le.2)
    clear y0 y1 y2 HAF HP3 kk
    generalize wc.drew = w4 at *
    go_wp2_with fail
    refine (HG.out w4 HA4.out).mono ?_
    rintro e w5 ⟨rfl, k5⟩
    have HA5 := Lib.hid (HA4.out.kept k5)
    have HT5 := Lib.hid (HT4.out.kept k5)
    have HR5 := Lib.hid (HR4.out.kept k5)
    have HB5 := Lib.hid (HB4.out.kept k5)
    have HP5 := Lib.hid (HPr.out.turn HT5.out)
    have HX5 := Lib.hid (HX.out.turn HT5.out)
    have hv2 : Valid S τ (0, rr) := HKV.out
    have kd : w5.cell? ⟨bk 0, rr * 10 + 8, none⟩ = some (.int .u8 ((symAt σ (0, rr)).kind : Int)) := by
      rw [HA5.out.sym hv2 (by omega), ← HKD.out]; rfl
    clear k5 HA4 HT4 HR4 HB4 HX HG hv2
    generalize (symAt σ (0, rr)).kind = kind at *
    have r0 : w5.cell? ⟨q, 0, none⟩ = some (.slice none 0 0) := HR5.out.cell 0
    have r1 : w5.cell? ⟨q, 1, none⟩ = some (.float .f64 0) := HR5.out.cell 1
    have f0 := HR5.out.free 0
    have f1 := HR5.out.free 1
    have HFIN : Hid (∀ n, Got w bk S (.agg #[.slice none 0 0, .float .f64 0]) false g τ (.returned (.tuple #[.agg #[.slice none 0 0, .float .f64 0], .bool false])) (((w5.drewN n).setCell ⟨q, 0, none⟩ (.slice none 0 0)).setCell ⟨q, 1, none⟩ (.float .f64 0))) := Lib.hid (fun n => by
      have hl := HBL.out
      have hle := HL.out
      refine ⟨rfl, ((HT5.out.drewN n).setNew (by show _ ≤ q; omega) _).setNew (by show _ ≤ q; omega) _, ?_⟩
      refine ((HA5.out.drewN n).far ?_ ?_ _).far ?_ ?_ _
      · show g ≠ q; omega
      · intro s hs; have := hl.2 s hs; show bk s ≠ q; omega
      · show g ≠ q; omega
      · intro s hs; have := hl.2 s hs; show bk s ≠ q; omega)
    have hsf : ∀ (W : World) (a : Addr) (b : Nat), (store a (.float .f64 b)).run Tryd.prog W = stored Tryd.prog W a (.float .f64 b) .plain := fun W a b => run_store Tryd.prog W a _ .plain rfl
    rcases HX5.out with ⟨hk, hV, rfl⟩ | ⟨hk, hN, hV, rfl⟩ | ⟨hk, mb, m, f, hF, hM, hb, hV, hok⟩
    · have hk2 : ((kind : Int) == 19) = false := by simp; omega
      unfold zeroV at hV
      injection hV with hV
      obtain ⟨⟨rfl, rfl, rfl⟩, rfl⟩ : (a0 = none ∧ n0 = 0 ∧ c0 = 0) ∧ x = 0 := by simpa using hV
      have z0 := fun n => (((HR5.out.drewN n).set 0 (.slice none 0 0)).set 1 (.float .f64 0)).cell 0
      have z1 := fun n => (((HR5.out.drewN n).set 0 (.slice none 0 0)).set 1 (.float .f64 0)).cell 1
      have HZ := Lib.hid (And.intro z0 z1)
      clear hk hV HX5 z0 z1
      go_wp2_with fail
      have e0 : ((w5.setCell ⟨q, 0, none⟩ (.slice none 0 0)).setCell ⟨q, 1, none⟩ (.float .f64 0)).cell? ⟨q, 0, none⟩ = some (.slice none 0 0) := HZ.out.1 0
      have e1 : ((w5.setCell ⟨q, 0, none⟩ (.slice none 0 0)).setCell ⟨q, 1, none⟩ (.float .f64 0)).cell? ⟨q, 1, none⟩ = some (.float .f64 0) := HZ.out.2 0
      refine bodyPost_ret (v := .tuple #[.agg #[.slice none 0 0, .float .f64 0], .bool false]) (by simp [results, Tryd.results21, go_sem, e0, e1]) rfl ?_
      exact HFIN.out 0
    · obtain ⟨kl, hkl⟩ := key50 rr hr2
      obtain ⟨m, hm⟩ := HP5.out.map
      have hlk : ∀ W : World, W.heap = w5.heap → (Instr.lookup 41 (.map (some M)) (.agg #[.int .u32 0, .int .u32 (rr : Int)]) true).run Tryd.prog W = .ok (.tuple #[(F (key rr)).getD (.map none), .bool (F (key rr)).isSome]) W := fun W hW =>
        mapf.MapF.look (hm.of_block (by rw [hW])) K50 Tryd.underlying41 (z := .map none) (by kernel_rfl) hkl true
      have hl1 := hlk w5.drew rfl
      have hl2 := fun n => hlk (w5.drewN n) rfl
      have hl3 := hlk w5 rfl
      rw [hN] at hl1 hl2 hl3
      simp only [Option.getD_none, Option.isSome_none] at hl1 hl2 hl3
      have x0 := HP5.out.tab
      have x1 : w5.cell? ⟨n6, 0, none⟩ = some (.int .u32 0) := HB5.out.cell 0
      have x2 : w5.cell? ⟨n6, 1, none⟩ = some (.int .u32 (rr : Int)) := HB5.out.cell 1
      unfold zeroV at hV
      injection hV with hV
      obtain ⟨⟨rfl, rfl, rfl⟩, rfl⟩ : (a0 = none ∧ n0 = 0 ∧ c0 = 0) ∧ x = 0 := by simpa using hV
      have z0 := fun n => (((HR5.out.drewN n).set 0 (.slice none 0 0)).set 1 (.float .f64 0)).cell 0
      have z1 := fun n => (((HR5.out.drewN n).set 0 (.slice none 0 0)).set 1 (.float .f64 0)).cell 1
      have HZ := Lib.hid (And.intro z0 z1)
      subst hk
      clear hV HX5 z0 z1 hN hlk hm hkl
      go_upto_region 6 with fail
      go_quiet (fail)
      go_wp2_with fail
      have e0 : (((w5.drewN nq).setCell ⟨q, 0, none⟩ (.slice none 0 0)).setCell ⟨q, 1, none⟩ (.float .f64 0)).cell? ⟨q, 0, none⟩ = some (.slice none 0 0) := HZ.out.1 nq
      have e1 : (((w5.drewN nq).setCell ⟨q, 0, none⟩ (.slice none 0 0)).setCell ⟨q, 1, none⟩ (.float .f64 0)).cell? ⟨q, 1, none⟩ = some (.float .f64 0) := HZ.out.2 nq
      refine bodyPost_ret (v := .tuple #[.agg #[.slice none 0 0, .float .f64 0], .bool false]) (by simp [results, Tryd.results21, go_sem, e0, e1]) rfl ?_
      exact HFIN.out nq
    · obtain ⟨kl, hkl⟩ := key50 rr hr2
      obtain ⟨kl2, hkl2⟩ := key9 nm hns
      obtain ⟨m2, hm⟩ := HP5.out.map
      have hlk : ∀ W : World, W.heap = w5.heap → (Instr.lookup 41 (.map (some M)) (.agg #[.int .u32 0, .int .u32 (rr : Int)]) true).run Tryd.prog W = .ok (.tuple #[(F (key rr)).getD (.map none), .bool (F (key rr)).isSome]) W := fun W hW =>
        mapf.MapF.look (hm.of_block (by rw [hW])) K50 Tryd.underlying41 (z := .map none) (by kernel_rfl) hkl true
      have hlk2 : ∀ W : World, W.heap = w5.heap → (Instr.lookup 66 (.map (some mb)) (.string nm) true).run Tryd.prog W = .ok (.tuple #[(f (.string nm)).getD zeroV, .bool (f (.string nm)).isSome]) W := fun W hW =>
        mapf.MapF.look (hM.of_block (by rw [hW])) K9 Tryd.underlying66 (z := zeroV) (by kernel_rfl) hkl2 true
      rw [← hV, ← hok] at hlk2
      have hl1 := hlk w5.drew rfl
      have hl2 := fun n => hlk (w5.drewN n) rfl
      have hl3 := hlk w5 rfl
      have hl4 := hlk2 w5.drew rfl
      have hl5 := fun n => hlk2 (w5.drewN n) rfl
      have hl6 := hlk2 w5 rfl
      rw [hF] at hl1 hl2 hl3
      simp only [Option.getD_some, Option.isSome_some] at hl1 hl2 hl3
      have x0 := HP5.out.tab
      have x1 : w5.cell? ⟨n6, 0, none⟩ = some (.int .u32 0) := HB5.out.cell 0
      have x2 : w5.cell? ⟨n6, 1, none⟩ = some (.int .u32 (rr : Int)) := HB5.out.cell 1
      subst hk
      clear hV HX5 hF hlk hm hkl hlk2 hM hb hok hkl2
      go_upto_region 6 with fail
      go_quiet (fail)
      go_upto_region 8 with fail
      have hl7 := hl5 nq
      have HR6 := Lib.hid (HR5.out.drewN nq)
      have HT6 := Lib.hid (HT5.out.drewN nq)
      have HA6 := Lib.hid (HA5.out.drewN nq)
      clear hl1 hl2 hl3 hl4 hl5 hl6 x0 x1 x2 r0 r1 f0 f1 HR5 HT5 HA5 HB5 HP5 HFIN kd
      generalize w5.drewN nq = w6 at *
      have r0 : w6.cell? ⟨q, 0, none⟩ = some (.slice none 0 0) := HR6.out.cell 0
      have r1 : w6.cell? ⟨q, 1, none⟩ = some (.float .f64 0) := HR6.out.cell 1
      have f0 := HR6.out.free 0
      have f1 := HR6.out.free 1
      have hqs := HR6.out.lt
      go_wp2_with fail
      have BZ := ((HR6.out.set 0 (.slice a0 n0 c0)).set 1 (.float .f64 x)).alloc (.cells #[.slice a0 n0 c0, .float .f64 x] 46)
      have e0 := BZ.cell 0
      have e1 := BZ.cell 1
      refine bodyPost_ret (v := .tuple #[.agg #[.slice a0 n0 c0, .float .f64 x], .bool ok]) (by simp [results, Tryd.results21, go_sem, e0, e1]) rfl ?_
      have hl := HBL.out
      have hle := HL.out
      refine ⟨rfl, ((HT6.out.setNew (by show _ ≤ q; omega) _).setNew (by show _ ≤ q; omega) _).alloc _, Arena.kept ?_ ((Kept.refl _).alloc _)⟩
      refine (HA6.out.far ?_ ?_ _).far ?_ ?_ _
      · show g ≠ q; omega
      · intro s hs; have := hl.2 s hs; show bk s ≠ q; omega
      · show g ≠ q; omega
      · intro s hs; have := hl.2 s hs; show bk s ≠ q; omega
end Go.Proofs.YtcndjkndmmcagaaDoor.mp
