/-
  FollowSymbols over this seat's program: it answers the end of the chain and links every linked symbol on the way straight to it.
  Conditions: the chain from the ref ends; ast.InvalidRef holds its initial value.
-/
import Derived.Test.YtcndjkndmmcagaaDoorArena
import Derived.Deep.RegionHeld3
import Derived.Deep.DrawnRows
import Derived.Outline
namespace Go.Proofs.YtcndjkndmmcagaaDoor.arena
open Go.ChangeShapes Go.WideShapes Go.ChangeAt Go.RowKit
open kit chain

/-- the variable ast.InvalidRef lies in block 0 -/
def Inv (w : World) : Prop := w.cell? ⟨0, 0, none⟩ = some (.int .u32 4294967295) ∧ w.cell? ⟨0, 1, none⟩ = some (.int .u32 4294967295)

def Followed (w : World) (g : Nat) (bk : Nat → Nat) (S : Nat) (σ : Tab) (d : Nat) (p r : Ref) (e : Ending) (w' : World) : Prop :=
  e = .returned (refV r) ∧ Arena w' g bk S (relink σ (path σ d p) r) ∧ Turn w w' bk S

set_option maxHeartbeats 4000000 in
theorem follow0 (w : World) (g : Nat) (bk : Nat → Nat) (S : Nat) (σ : Tab) (p r : Ref) (h : Arena w g bk S σ) (hI : Inv w) (hc : Chain S σ 0 p r) :
    Calls Tryd.prog 24 #[mapV g S, refV p] w (Followed w g bk S σ 0 p r) := by
  obtain ⟨hv, hl, rfl⟩ := hc
  have hsz := h.outer.lt
  have c2 : w.cell? ⟨bk p.1, p.2 * 10 + 2, none⟩ = some (.int .u32 4294967295) := by
    rw [h.sym hv (by omega)]
    have : (symAt σ p).la = 4294967295 := congrArg Prod.fst hl
    simp [cells1, this]
  have c3 : w.cell? ⟨bk p.1, p.2 * 10 + 3, none⟩ = some (.int .u32 4294967295) := by
    rw [h.sym hv (by omega)]
    have : (symAt σ p).lb = 4294967295 := congrArg Prod.snd hl
    simp [cells1, this]
  obtain ⟨i0, i1⟩ := hI
  have HA := Lib.hid h
  have HV := Lib.hid hv
  have hb := h.lt hv.1
  clear h hv hl
  have HG := Lib.hid (fun W (k : Kept w W) => get W g bk S σ p (HA.out.kept k) HV.out)
  unfold mapV refV
  go_enter Tryd.func24, Tryd.ntmps24
  go_wp2_with fail
  refine (HG.out _ (((Kept.refl _).alloc _).alloc _ |>.alloc _)).mono ?_
  rintro e w1 ⟨rfl, hk⟩
  have B0 : Blk w1 w.heap.size 39 [.slice (some ⟨g, 0, none⟩) S S] := (((Blk.new w 39 [.slice (some ⟨g, 0, none⟩) S S]).alloc _).alloc _).kept hk
  have B1 : Blk w1 (w.heap.size + 1) 50 [.int .u32 (p.1 : Int), .int .u32 (p.2 : Int)] := by
    have := ((Blk.new (w.alloc (.cells #[.slice (some ⟨g, 0, none⟩) S S] 39)) 50 [.int .u32 (p.1 : Int), .int .u32 (p.2 : Int)]).alloc (.cells #[.int .u32 0, .int .u32 0] 50)).kept hk
    simpa using this
  have B2 : Blk w1 (w.heap.size + 2) 50 [.int .u32 0, .int .u32 0] := by
    have := (Blk.new ((w.alloc (.cells #[.slice (some ⟨g, 0, none⟩) S S] 39)).alloc (.cells #[.int .u32 (p.1 : Int), .int .u32 (p.2 : Int)] 50)) 50 [.int .u32 0, .int .u32 0]).kept hk
    simpa using this
  have K0 : Kept w w1 := ((((Kept.refl w).alloc _).alloc _).alloc _).trans hk
  have e2 := K0.cell c2
  have e3 := K0.cell c3
  have j0 := K0.cell i0
  have j1 := K0.cell i1
  have k0 : w1.cell? ⟨w.heap.size + 1, 0, none⟩ = some (.int .u32 (p.1 : Int)) := B1.cell 0
  have k1 : w1.cell? ⟨w.heap.size + 1, 1, none⟩ = some (.int .u32 (p.2 : Int)) := B1.cell 1
  have l0 : w1.cell? ⟨w.heap.size + 2, 0, none⟩ = some (.int .u32 0) := B2.cell 0
  have l1 : w1.cell? ⟨w.heap.size + 2, 1, none⟩ = some (.int .u32 0) := B2.cell 1
  have f0 := B2.free 0
  have f1 := B2.free 1
  have HK := Lib.hid K0
  have HB2 := Lib.hid B2
  clear K0 B0 B1 B2 hk c2 c3 i0 i1 HG
  generalize hq : w.heap.size = q at *
  have HQ := Lib.hid hq
  clear hq
  go_wp2_with fail
  go_quiet (fail)
  go_wp2_with fail
  refine bodyPost_ret (v := .agg #[.int .u32 (p.1 : Int), .int .u32 (p.2 : Int)]) (by simp [results, Tryd.results24, go_sem, l0, l1]) rfl ?_
  rw [Followed, path, relink_nil]
  refine ⟨rfl, ?_, ?_⟩
  · exact HA.out.kept (((HK.out.drewN _).setCell (by rw [HQ.out]; simp; omega) _).setCell (by rw [HQ.out]; simp; omega) _)
  · exact Turn.of_kept (((HK.out.drewN _).setCell (by rw [HQ.out]; simp; omega) _).setCell (by rw [HQ.out]; simp; omega) _) _ _

theorem Turn.at {w w2 : World} {bk : Nat → Nat} {S : Nat} (h : Turn w w2 bk S) (b : Nat) (hn : ∀ s, s < S → bk s ≠ b) (i : Nat) (v : Value) (hv : w.cell? ⟨b, i, none⟩ = some v) : w2.cell? ⟨b, i, none⟩ = some v ∧ w2.frozen? ⟨b, i, none⟩ = w.frozen? ⟨b, i, none⟩ := by
  have hb := h.block b (World.block_lt_of_cell? w ⟨b, i, none⟩ hv) hn
  exact ⟨(World.cell?_of_block (a := ⟨b, i, none⟩) hb).trans hv, by simp only [World.frozen?]; rw [hb]⟩

theorem Arena.far {w : World} {g : Nat} {bk : Nat → Nat} {S : Nat} {σ : Tab} (h : Arena w g bk S σ) {a : Addr} (hg : g ≠ a.block) (hb : ∀ s, s < S → bk s ≠ a.block) (u : Value) : Arena (w.setCell a u) g bk S σ :=
  ⟨h.outer.far hg u, fun s hs => (h.inner s hs).far (hb s hs) u, h.apart, h.fit⟩
/-- where FollowSymbols stands behind its call of itself -/
structure Aft (w w3 : World) (g : Nat) (bk : Nat → Nat) (S : Nat) (τ : Tab) (n6 q : Nat) (r : Ref) : Prop where
  ar : Arena w3 g bk S τ
  tu : Turn w w3 bk S
  new : Blk w3 n6 50 [.int .u32 (r.1 : Int), .int .u32 (r.2 : Int)]
  res : Blk w3 (q + 2) 50 [.int .u32 0, .int .u32 0]
  le : q + 2 < n6 ∧ w.heap.size = q ∧ g < q ∧ ∀ s, s < S → bk s < q
theorem aft1 {w w2 w' : World} {g : Nat} {bk : Nat → Nat} {S : Nat} {τ : Tab} {q : Nat} {r : Ref} (hq : w.heap.size = q) (hk : Kept w w2) (hb : Blk w2 (q + 2) 50 [.int .u32 0, .int .u32 0]) (hl : ∀ s, s < S → bk s < q) (hg : g < q) (hA : Arena w' g bk S τ) (hT : Turn w2.drew w' bk S) :
    Aft w (w'.alloc (.cells #[.int .u32 (r.1 : Int), .int .u32 (r.2 : Int)] 50)) g bk S τ w'.heap.size q r := by
  have b2 : Blk w' (q + 2) 50 [.int .u32 0, .int .u32 0] := hT.blk hb.drew (fun s hs => by have := hl s hs; omega)
  exact ⟨hA.kept ((Kept.refl _).alloc _), ((Turn.of_kept hk.drew bk S).trans hT).alloc _, Blk.new w' 50 [.int .u32 (r.1 : Int), .int .u32 (r.2 : Int)], b2.alloc _, b2.lt, hq, hg, hl⟩
theorem aft2 {w w2 w' : World} {g : Nat} {bk : Nat → Nat} {S : Nat} {τ : Tab} {q : Nat} {r : Ref} (hq : w.heap.size = q) (hk : Kept w w2) (hb : Blk w2 (q + 2) 50 [.int .u32 0, .int .u32 0]) (hl : ∀ s, s < S → bk s < q) (hg : g < q) (hA : Arena w' g bk S τ)
    (hT : Turn (w2.alloc (.cells #[.int .u32 0, .int .u32 0] 50)).drew w' bk S) :
    Aft w ((w'.setCell ⟨w2.heap.size, 0, none⟩ (.int .u32 (r.1 : Int))).setCell ⟨w2.heap.size, 1, none⟩ (.int .u32 (r.2 : Int))) g bk S τ w2.heap.size q r := by
  have hlt := hb.lt
  have b2 : Blk w' (q + 2) 50 [.int .u32 0, .int .u32 0] := hT.blk (hb.alloc _).drew (fun s hs => by have := hl s hs; omega)
  have b6 : Blk w' w2.heap.size 50 [.int .u32 0, .int .u32 0] := hT.blk (Blk.new w2 50 [.int .u32 0, .int .u32 0]).drew (fun s hs => by have := hl s hs; omega)
  have hs2 : w.heap.size ≤ w2.heap.size := hk.size
  refine ⟨?_, ?_, ?_, ?_, hlt, hq, hg, hl⟩
  · refine (hA.far ?_ ?_ _).far ?_ ?_ _
    · show g ≠ w2.heap.size; omega
    · intro s hs; have := hl s hs; show bk s ≠ w2.heap.size; omega
    · show g ≠ w2.heap.size; omega
    · intro s hs; have := hl s hs; show bk s ≠ w2.heap.size; omega
  · exact (((Turn.of_kept (hk.alloc _).drew bk S).trans hT).setNew (by show _ ≤ w2.heap.size; omega) _).setNew (by show _ ≤ w2.heap.size; omega) _
  · exact (b6.set 0 (.int .u32 (r.1 : Int))).set 1 (.int .u32 (r.2 : Int))
  · exact (b2.far (by show q + 2 ≠ w2.heap.size; omega) _).far (by show q + 2 ≠ w2.heap.size; omega) _

theorem Arena.drewN {w : World} {g : Nat} {bk : Nat → Nat} {S : Nat} {σ : Tab} (h : Arena w g bk S σ) (n : Nat) : Arena (w.drewN n) g bk S σ := h.kept ((Kept.refl _).drewN n)
theorem res_of {w w4 : World} {g : Nat} {bk : Nat → Nat} {S : Nat} {τ : Tab} {q : Nat} (hA : Arena w4 g bk S τ) (hT : Turn w w4 bk S) (hle : w.heap.size = q ∧ g < q ∧ ∀ s, s < S → bk s < q) (u v : Value) :
    Arena ((w4.setCell ⟨q + 1 + 1, 0, none⟩ u).setCell ⟨q + 1 + 1, 1, none⟩ v) g bk S τ ∧ Turn w ((w4.setCell ⟨q + 1 + 1, 0, none⟩ u).setCell ⟨q + 1 + 1, 1, none⟩ v) bk S := by
  obtain ⟨hq, hg, hl⟩ := hle
  constructor
  · refine (hA.far ?_ ?_ _).far ?_ ?_ _
    · show g ≠ q + 1 + 1; omega
    · intro s hs; have := hl s hs; show bk s ≠ q + 1 + 1; omega
    · show g ≠ q + 1 + 1; omega
    · intro s hs; have := hl s hs; show bk s ≠ q + 1 + 1; omega
  · exact (hT.setNew (by show _ ≤ q + 1 + 1; omega) _).setNew (by show _ ≤ q + 1 + 1; omega) _

set_option maxRecDepth 100000 in
set_option maxHeartbeats 4000000 in
theorem followS (w : World) (g : Nat) (bk : Nat → Nat) (S : Nat) (σ : Tab) (d : Nat) (p r : Ref) (h : Arena w g bk S σ) (hI : Inv w) (hz : ∀ s, s < S → bk s ≠ 0) (hc : Chain S σ (d + 1) p r)
    (ih : ∀ W : World, Arena W g bk S σ → Inv W → Calls Tryd.prog 24 #[mapV g S, refV (lnk σ p)] W (Followed W g bk S σ d (lnk σ p) r)) :
    Calls Tryd.prog 24 #[mapV g S, refV p] w (Followed w g bk S σ (d + 1) p r) := by
  have hv := hc.valid
  have hsz := h.outer.lt
  have hb := h.lt hv.1
  have c2 : w.cell? ⟨bk p.1, p.2 * 10 + 2, none⟩ = some (.int .u32 ((lnk σ p).1 : Int)) := by
    rw [h.sym hv (by omega)]; simp [cells1, lnk]
  have c3 : w.cell? ⟨bk p.1, p.2 * 10 + 3, none⟩ = some (.int .u32 ((lnk σ p).2 : Int)) := by
    rw [h.sym hv (by omega)]; simp [cells1, lnk]
  obtain ⟨i0, i1⟩ := hI
  have hlt : ∀ s, s < S → bk s < w.heap.size := fun s hs => h.lt hs
  have HLT := Lib.hid hlt
  have HZ := Lib.hid hz
  have HC := Lib.hid hc
  have hne := hc.2.1
  have hne2 : ¬ ((lnk σ p).1 = 4294967295 ∧ (lnk σ p).2 = 4294967295) := fun e => hne (Prod.ext e.1 e.2)
  have HIH := Lib.hid (fun (W : World) (k : Kept w W) (kb : W.cell? ⟨w.heap.size, 0, none⟩ = some (.slice (some ⟨g, 0, none⟩) S S)) (n6 : Nat) (hn6 : Hid (∀ s, s < S → bk s ≠ n6)) => (ih W (h.kept k) ⟨k.cell i0, k.cell i1⟩).mono (fun e w' (f : Followed W g bk S σ d (lnk σ p) r e w') => (show e = .returned (.agg #[.int .u32 (r.1 : Int), .int .u32 (r.2 : Int)]) ∧ w'.cell? ⟨w.heap.size, 0, none⟩ = some (.slice (some ⟨g, 0, none⟩) S S) ∧ w'.cell? ⟨bk p.1, p.2 * 10 + 2, none⟩ = some (.int .u32 ((lnk σ p).1 : Int)) ∧ w'.cell? ⟨bk p.1, p.2 * 10 + 3, none⟩ = some (.int .u32 ((lnk σ p).2 : Int)) ∧ (W.cell? ⟨n6, 0, none⟩ = some (.int .u32 0) → w'.cell? ⟨n6, 0, none⟩ = some (.int .u32 0) ∧ w'.frozen? ⟨n6, 0, none⟩ = W.frozen? ⟨n6, 0, none⟩) ∧ (W.cell? ⟨n6, 1, none⟩ = some (.int .u32 0) → w'.cell? ⟨n6, 1, none⟩ = some (.int .u32 0) ∧ w'.frozen? ⟨n6, 1, none⟩ = W.frozen? ⟨n6, 1, none⟩) ∧ Hid (Arena w' g bk S (relink σ (path σ d (lnk σ p)) r)) ∧ Hid (Turn W w' bk S) from by
    obtain ⟨f1, f2, f3⟩ := f
    have e : lnk (relink σ (path σ d (lnk σ p)) r) p = lnk σ p := hc.head_lnk
    have hv2 : Valid S (relink σ (path σ d (lnk σ p)) r) p := (relink_valid ..).2 hv
    refine ⟨f1, f3.cell kb (fun s hs => by have := hlt s hs; show bk s ≠ w.heap.size; omega), ?_, ?_, f3.at n6 hn6.out 0 _, f3.at n6 hn6.out 1 _, Lib.hid f2, Lib.hid f3⟩
    · have := f2.link2 hv2; rw [e] at this; exact this
    · have := f2.link3 hv2; rw [e] at this; exact this)))
  unfold mapV refV at HIH
  have HA := Lib.hid h
  have HV := Lib.hid hv
  clear ih h hv hlt hz hc
  have HG := Lib.hid (fun W (k : Kept w W) => get W g bk S σ p (HA.out.kept k) HV.out)
  generalize hL : lnk σ p = L at *
  have HL := Lib.hid hL
  clear hL
  obtain ⟨a, b⟩ := L
  have hne3 : decide ((a, b) = inv) = false := by simpa using hne
  have he : ∀ W : World, (binOp .eql 50 (.agg #[.int .u32 (a : Int), .int .u32 (b : Int)]) (.agg #[.int .u32 4294967295, .int .u32 4294967295])).run Tryd.prog W = .ok (.bool false) W := fun W => by
    have := eqRef W (a, b) inv
    rw [hne3] at this
    exact this
  simp only at c2 c3
  clear hne hne2 hne3
  unfold mapV refV
  go_enter Tryd.func24, Tryd.ntmps24
  go_wp2_with fail
  refine (HG.out _ (((Kept.refl _).alloc _).alloc _ |>.alloc _)).mono ?_
  rintro e w1 ⟨rfl, hk⟩
  have B0 : Blk w1 w.heap.size 39 [.slice (some ⟨g, 0, none⟩) S S] := (((Blk.new w 39 [.slice (some ⟨g, 0, none⟩) S S]).alloc _).alloc _).kept hk
  have B2 : Blk w1 (w.heap.size + 2) 50 [.int .u32 0, .int .u32 0] := by
    have := (Blk.new ((w.alloc (.cells #[.slice (some ⟨g, 0, none⟩) S S] 39)).alloc (.cells #[.int .u32 (p.1 : Int), .int .u32 (p.2 : Int)] 50)) 50 [.int .u32 0, .int .u32 0]).kept hk
    simpa using this
  have K0 : Kept w w1 := ((((Kept.refl w).alloc _).alloc _).alloc _).trans hk
  have e2 := K0.cell c2
  have e3 := K0.cell c3
  have j0 := K0.cell i0
  have j1 := K0.cell i1
  have k0 : w1.cell? ⟨w.heap.size, 0, none⟩ = some (.slice (some ⟨g, 0, none⟩) S S) := B0.cell 0
  have HK := Lib.hid K0
  have HB2 := Lib.hid B2
  clear K0 B0 B2 hk c2 c3 i0 i1 HG
  generalize hq : w.heap.size = q at *
  have HQ := Lib.hid hq
  clear hq
  go_wp2_with fail
  go_quiet (fail)
  go_wp2_with fail
  obtain ⟨w2, hw2⟩ : ∃ w2, w2 = w1.drewN nq := ⟨_, rfl⟩
  have HK2 : Hid (Kept w w2) := Lib.hid (by rw [hw2]; exact HK.out.drewN _)
  have HB3 : Hid (Blk w2 (q + 2) 50 [.int .u32 0, .int .u32 0]) := Lib.hid (by rw [hw2]; exact HB2.out.drewN _)
  have s0 : w2.cell? ⟨q, 0, none⟩ = some (.slice (some ⟨g, 0, none⟩) S S) := by rw [hw2]; exact k0
  have s2 : w2.cell? ⟨bk p.1, p.2 * 10 + 2, none⟩ = some (.int .u32 (a : Int)) := by rw [hw2]; exact e2
  have s3 : w2.cell? ⟨bk p.1, p.2 * 10 + 3, none⟩ = some (.int .u32 (b : Int)) := by rw [hw2]; exact e3
  have HLT2 : Hid (∀ s, s < S → bk s < w2.heap.size) := Lib.hid (fun s hs => by have := HLT.out s hs; have h2 := HK2.out.size; have h3 := HQ.out; omega)
  have HN6 : Hid (∀ s, s < S → bk s ≠ w2.heap.size) := Lib.hid (fun s hs => by have := HLT2.out s hs; omega)
  have n1 := World.new_ne w2 ⟨q, 0, none⟩ s0
  have n2 := World.new_ne w2 ⟨bk p.1, p.2 * 10 + 2, none⟩ s2
  rw [← hw2]
  clear hw2 e2 e3 k0 j0 j1 HB2 HK he
  go_region_held3 (fun W => W.cell? ⟨q, 0, none⟩ = some (.slice (some ⟨g, 0, none⟩) S S) ∧ W.cell? ⟨bk p.1, p.2 * 10 + 2, none⟩ = some (.int .u32 (a : Int)) ∧ W.cell? ⟨bk p.1, p.2 * 10 + 3, none⟩ = some (.int .u32 (b : Int))) (first | go_keep)
    (first | (go_at_call 24; refine (HIH.out _ ?_ ?_ w2.heap.size HN6).mono ?_; (repeat (first | exact HK2.out | apply Kept.drew | apply Kept.alloc)); (simp [*]); rintro e w' ⟨rfl, t0, t2, t3, u0, u1, hA, hT⟩))
  all_goals
    first
    | have HAF := Lib.hid (aft1 (r := r) HQ.out HK2.out HB3.out HLT.out hsz hA.out hT.out)
      generalize w'.alloc (.cells #[.int .u32 (r.1 : Int), .int .u32 (r.2 : Int)] 50) = w3 at *
      generalize w'.heap.size = n6 at *
    | have HAF := Lib.hid (aft2 (r := r) HQ.out HK2.out HB3.out HLT.out hsz hA.out hT.out)
      generalize (w'.setCell ⟨w2.heap.size, 0, none⟩ (.int .u32 (r.1 : Int))).setCell ⟨w2.heap.size, 1, none⟩ (.int .u32 (r.2 : Int)) = w3 at *
      generalize w2.heap.size = n6 at *
  all_goals
    rename_i hheld
    clear hheld
    clear u0 u1 t0 t2 t3 hA hT s0 s2 s3 HLT2 HN6 n1 n2 HIH HK2 HB3
    have hv2 : Valid S (relink σ (path σ d (a, b)) r) p := (relink_valid ..).2 HV.out
    have hlk : lnk (relink σ (path σ d (a, b)) r) p = (a, b) := by
      have := HC.out.head_lnk
      rw [HL.out] at this
      exact this
    have v2 := HAF.out.ar.link2 hv2
    have v3 := HAF.out.ar.link3 hv2
    rw [hlk] at v2 v3
    have y2 := HAF.out.ar.free hv2 (p.2 * 10 + 2)
    have y3 := HAF.out.ar.free hv2 (p.2 * 10 + 3)
    have x0 : w3.cell? ⟨n6, 0, none⟩ = some (.int .u32 (r.1 : Int)) := HAF.out.new.cell 0
    have x1 : w3.cell? ⟨n6, 1, none⟩ = some (.int .u32 (r.2 : Int)) := HAF.out.new.cell 1
    have l0 : w3.cell? ⟨q + 2, 0, none⟩ = some (.int .u32 0) := HAF.out.res.cell 0
    have l1 : w3.cell? ⟨q + 2, 1, none⟩ = some (.int .u32 0) := HAF.out.res.cell 1
    have f0 := HAF.out.res.free 0
    have f1 := HAF.out.res.free 1
    have m1 := HAF.out.le.1
    have HV2 := Lib.hid hv2
    have HLK := Lib.hid hlk
    clear hv2 hlk
    have hne : ∀ W : World, (binOp .neq 50 (.agg #[.int .u32 (a : Int), .int .u32 (b : Int)]) (.agg #[.int .u32 (r.1 : Int), .int .u32 (r.2 : Int)])).run Tryd.prog W = .ok (.bool (!decide ((a, b) = r))) W := fun W => neRef W (a, b) r
    have HPU := Lib.hid (put_relink σ (path σ d (a, b)) r p HV.out)
    have HPA : Hid (path σ (d + 1) p = p :: path σ d (a, b)) := Lib.hid (by rw [path, HL.out])
    by_cases hr : (a, b) = r
    · have HR := Lib.hid hr
      have hd : decide ((a, b) = r) = true := by simpa using hr
      rw [hd] at hne
      clear hr hd
      go_wp2_with fail
      go_quiet (fail)
      go_wp2_with fail
      refine bodyPost_ret (v := .agg #[.int .u32 (r.1 : Int), .int .u32 (r.2 : Int)]) (by simp [results, Tryd.results24, go_sem, l0, l1]) rfl ?_
      rw [Followed, HPA.out, ← HPU.out, put_same (S := S) _ p r HV2.out (HLK.out.trans HR.out)]
      exact ⟨rfl, res_of (HAF.out.ar.drewN _) (HAF.out.tu.drewN _) HAF.out.le.2 _ _⟩
    · have hd : decide ((a, b) = r) = false := by simpa using hr
      rw [hd] at hne
      clear hr hd
      go_wp2_with fail
      go_quiet (fail)
      go_wp2_with fail
      refine bodyPost_ret (v := .agg #[.int .u32 (r.1 : Int), .int .u32 (r.2 : Int)]) (by simp [results, Tryd.results24, go_sem, l0, l1]) rfl ?_
      rw [Followed, HPA.out, ← HPU.out]
      exact ⟨rfl, res_of ((HAF.out.ar.drewN _).put HV2.out r) (((HAF.out.tu.drewN _).setSym HV2.out.1 _ _).setSym HV2.out.1 _ _) HAF.out.le.2 _ _⟩

theorem follow (g : Nat) (bk : Nat → Nat) (S : Nat) (σ : Tab) (r : Ref) (hz : ∀ s, s < S → bk s ≠ 0) (d : Nat) : ∀ (p : Ref) (w : World), Arena w g bk S σ → Inv w → Chain S σ d p r →
    Calls Tryd.prog 24 #[mapV g S, refV p] w (Followed w g bk S σ d p r) := by
  induction d with
  | zero => intro p w h hI hc; exact follow0 w g bk S σ p r h hI hc
  | succ d ih => intro p w h hI hc; exact followS w g bk S σ d p r h hI hz hc (fun W hA hI2 => ih _ W hA hI2 hc.2.2)
theorem Turn.inv {w w2 : World} {bk : Nat → Nat} {S : Nat} (h : Turn w w2 bk S) (hI : Inv w) (hz : ∀ s, s < S → bk s ≠ 0) : Inv w2 := ⟨h.cell hI.1 hz, h.cell hI.2 hz⟩
theorem Inv.kept {w w2 : World} (h : Inv w) (k : Kept w w2) : Inv w2 := ⟨k.cell h.1, k.cell h.2⟩
end Go.Proofs.YtcndjkndmmcagaaDoor.arena
