/-
  isUnboundIdentifier and isUnboundEvalIdentifier over this seat's program.
  Conditions: the chain from the identifier's ref ends; ast.InvalidRef holds its initial value.
-/
import Derived.Test.YtijbmfmcpcpcaaaDoorRFollow
namespace Go.Proofs.YtijbmfmcpcpcaaaDoorR.unb
open Go.ChangeShapes Go.WideShapes Go.ChangeAt Go.RowKit
open kit chain arena

/-- a printer whose field symbols is the map -/
def Prn (w : World) (gp g S : Nat) (bk : Nat → Nat) : Prop := w.cell? ⟨gp, 0, none⟩ = some (.slice (some ⟨g, 0, none⟩) S S) ∧ ∀ s, s < S → bk s ≠ gp
/-- an EIdentifier with its ref -/
def Idn (w : World) (ge S : Nat) (bk : Nat → Nat) (p : Ref) : Prop := w.cell? ⟨ge, 0, none⟩ = some (.int .u32 (p.1 : Int)) ∧ w.cell? ⟨ge, 1, none⟩ = some (.int .u32 (p.2 : Int)) ∧ ∀ s, s < S → bk s ≠ ge
def exprV (u : TypeId) (ge : Nat) : Value := .agg #[.iface u (.pointer (some ⟨ge, 0, none⟩)), .int .i32 0]

theorem as33 (W : World) (v : Value) : (Instr.typeAssert (.iface 33 v) 39 33 true).run Tryd.prog W = .ok (.tuple #[v, .bool true]) W := by kernel_rfl
theorem as66 (W : World) (v : Value) : (Instr.typeAssert (.iface 66 v) 39 33 true).run Tryd.prog W = .ok (.tuple #[.pointer none, .bool false]) W := by kernel_rfl
theorem as69 (W : World) (v : Value) : (Instr.typeAssert (.iface 69 v) 39 33 true).run Tryd.prog W = .ok (.tuple #[.pointer none, .bool false]) W := by kernel_rfl
theorem asnil (W : World) : (Instr.typeAssert .nilIface 39 33 true).run Tryd.prog W = .ok (.tuple #[.pointer none, .bool false]) W := by kernel_rfl
def Asked (w : World) (g : Nat) (bk : Nat → Nat) (S : Nat) (σ : Tab) (d : Nat) (p r : Ref) (b : Bool) (e : Ending) (w' : World) : Prop :=
  e = .returned (.bool b) ∧ Arena w' g bk S (relink σ (path σ d p) r) ∧ Turn w w' bk S

set_option maxRecDepth 100000 in
set_option maxHeartbeats 4000000 in
theorem unb48 (w : World) (gp ge g : Nat) (bk : Nat → Nat) (S : Nat) (σ : Tab) (d : Nat) (p r : Ref) (h : Arena w g bk S σ) (hI : Inv w) (hz : ∀ s, s < S → bk s ≠ 0) (hc : Chain S σ d p r) (hP : Prn w gp g S bk) (hE : Idn w ge S bk p) :
    Calls Tryd.prog 48 #[.pointer (some ⟨gp, 0, none⟩), exprV 33 ge] w (Asked w g bk S σ d p r (decide ((symAt σ r).kind = 0))) := by
  have hvr := hc.root.valid
  have k0 : w.cell? ⟨bk r.1, r.2 * 10 + 8, none⟩ = some (.int .u8 ((symAt σ r).kind : Int)) := by rw [h.sym hvr (by omega)]; rfl
  have HF := Lib.hid (fun (W : World) (k : Kept w W) => (arena.follow g bk S σ r hz d p W (h.kept k) (hI.kept k) hc).mono (fun e w' (f : arena.Followed W g bk S σ d p r e w') => (show e = .returned (.agg #[.int .u32 (r.1 : Int), .int .u32 (r.2 : Int)]) ∧ (w'.cell? ⟨gp, 0, none⟩ = some (.slice (some ⟨g, 0, none⟩) S S) ∧ w'.cell? ⟨ge, 0, none⟩ = some (.int .u32 (p.1 : Int)) ∧ w'.cell? ⟨ge, 1, none⟩ = some (.int .u32 (p.2 : Int)) ∧ w'.cell? ⟨bk r.1, r.2 * 10 + 8, none⟩ = some (.int .u8 ((symAt σ r).kind : Int))) ∧ Hid (Arena w' g bk S (relink σ (path σ d p) r)) ∧ Hid (Turn W w' bk S) from by
    obtain ⟨f1, f2, f3⟩ := f
    refine ⟨f1, ⟨f3.cell (k.cell hP.1) hP.2, f3.cell (k.cell hE.1) hE.2.2, f3.cell (k.cell hE.2.1) hE.2.2, ?_⟩, Lib.hid f2, Lib.hid f3⟩
    have hv2 : Valid S (relink σ (path σ d p) r) r := (relink_valid ..).2 hvr
    have := f2.sym hv2 (i := 8) (by omega)
    rw [this, ← relink_kind σ (path σ d p) r hvr]
    rfl)))
  unfold mapV refV at HF
  have HG := Lib.hid (fun (W : World) (hA : Arena W g bk S (relink σ (path σ d p) r)) => (arena.get W g bk S _ r hA ((relink_valid ..).2 hvr)))
  unfold mapV refV at HG
  obtain ⟨p0, _⟩ := hP
  obtain ⟨e0, e1, _⟩ := hE
  have HV := Lib.hid hvr
  clear h hI hz hc hvr
  generalize hk : (symAt σ r).kind = k at *
  clear hk
  unfold exprV
  have hsz := World.block_lt_of_cell? w _ p0
  have ha := fun W => as33 W (.pointer (some ⟨ge, 0, none⟩))
  go_enter Tryd.func48, Tryd.ntmps48
  go_wp2_with fail
  obtain ⟨w2, hw2⟩ : ∃ w2, w2 = w.alloc (.cells #[.iface 33 (.pointer (some ⟨ge, 0, none⟩)), .int .i32 0] 43) := ⟨_, rfl⟩
  have HK2 : Hid (Kept w w2) := Lib.hid (by rw [hw2]; exact (Kept.refl _).alloc _)
  have s0 := HK2.out.cell p0
  have s1 := HK2.out.cell e0
  have s2 := HK2.out.cell e1
  have s3 := HK2.out.cell k0
  rw [← hw2]
  clear hw2 p0 e0 e1 k0 ha
  go_region_held3 (fun W => W.cell? ⟨gp, 0, none⟩ = some (.slice (some ⟨g, 0, none⟩) S S) ∧ W.cell? ⟨ge, 0, none⟩ = some (.int .u32 (p.1 : Int)) ∧ W.cell? ⟨ge, 1, none⟩ = some (.int .u32 (p.2 : Int)) ∧ W.cell? ⟨bk r.1, r.2 * 10 + 8, none⟩ = some (.int .u8 (k : Int))) (first | exact ⟨hkg.cell hs.1, hkg.cell hs.2.1, hkg.cell hs.2.2.1, hkg.cell hs.2.2.2⟩ | exact hs | go_keep)
    (first | (go_at_call 58; refine (HF.out _ ?_).mono ?_; (repeat (first | exact HK2.out | apply Kept.drew)); rintro e w' ⟨rfl, hs, hA, hT⟩) | (go_at_call 57; refine (HG.out _ hA.out).mono ?_; rintro e w4 ⟨rfl, hkg⟩))
  go_wp2_with fail
  go_ret
  have hb : ((k : Int) == 0) = decide (k = 0) := by rw [Bool.eq_iff_iff]; simp
  exact ⟨by rw [← hb]; rfl, hA.out.kept hkg, ((Turn.of_kept HK2.out.drew bk S).trans hT.out).kept hkg⟩

theorem no48 (w : World) (gp : Nat) (u : TypeId) (x : Value) (ha : ∀ W, (Instr.typeAssert (.iface u x) 39 33 true).run Tryd.prog W = .ok (.tuple #[.pointer none, .bool false]) W) :
    Calls Tryd.prog 48 #[.pointer (some ⟨gp, 0, none⟩), .agg #[.iface u x, .int .i32 0]] w fun e w' => e = .returned (.bool false) ∧ Kept w w' := by
  go_enter Tryd.func48, Tryd.ntmps48
  go_wp2_with fail
  go_quiet (fail)
  go_wp2_with fail
  go_ret
  exact ⟨rfl, ((Kept.refl _).alloc _).drewN _⟩
theorem nil48 (w : World) (gp : Nat) :
    Calls Tryd.prog 48 #[.pointer (some ⟨gp, 0, none⟩), .agg #[.nilIface, .int .i32 0]] w fun e w' => e = .returned (.bool false) ∧ Kept w w' := by
  have ha := asnil
  go_enter Tryd.func48, Tryd.ntmps48
  go_wp2_with fail
  go_quiet (fail)
  go_wp2_with fail
  go_ret
  exact ⟨rfl, ((Kept.refl _).alloc _).drewN _⟩

def evalB (x : Sym) : Bool := decide (x.kind = 0) && (x.name.toList == [101, 118, 97, 108])

set_option maxRecDepth 100000 in
set_option maxHeartbeats 4000000 in
theorem unb49 (w : World) (gp ge g : Nat) (bk : Nat → Nat) (S : Nat) (σ : Tab) (d : Nat) (p r : Ref) (h : Arena w g bk S σ) (hI : Inv w) (hz : ∀ s, s < S → bk s ≠ 0) (hc : Chain S σ d p r) (hP : Prn w gp g S bk) (hE : Idn w ge S bk p) :
    Calls Tryd.prog 49 #[.pointer (some ⟨gp, 0, none⟩), exprV 33 ge] w (Asked w g bk S σ d p r (evalB (symAt σ r))) := by
  have hvr := hc.root.valid
  have HF := Lib.hid (fun (W : World) (k : Kept w W) => (arena.follow g bk S σ r hz d p W (h.kept k) (hI.kept k) hc).mono (fun e w' (f : arena.Followed W g bk S σ d p r e w') => (show e = .returned (.agg #[.int .u32 (r.1 : Int), .int .u32 (r.2 : Int)]) ∧ (w'.cell? ⟨gp, 0, none⟩ = some (.slice (some ⟨g, 0, none⟩) S S) ∧ w'.cell? ⟨ge, 0, none⟩ = some (.int .u32 (p.1 : Int)) ∧ w'.cell? ⟨ge, 1, none⟩ = some (.int .u32 (p.2 : Int))) ∧ Hid (Arena w' g bk S (relink σ (path σ d p) r)) ∧ Hid (Turn W w' bk S) from by
    obtain ⟨f1, f2, f3⟩ := f
    exact ⟨f1, ⟨f3.cell (k.cell hP.1) hP.2, f3.cell (k.cell hE.1) hE.2.2, f3.cell (k.cell hE.2.1) hE.2.2⟩, Lib.hid f2, Lib.hid f3⟩)))
  unfold mapV refV at HF
  have HG := Lib.hid (fun (W : World) (hA : Arena W g bk S (relink σ (path σ d p) r)) => (arena.get W g bk S _ r hA ((relink_valid ..).2 hvr)))
  unfold mapV refV at HG
  obtain ⟨p0, _⟩ := hP
  obtain ⟨e0, e1, _⟩ := hE
  have HV := Lib.hid hvr
  clear h hI hz hc hvr
  unfold exprV
  have hsz := World.block_lt_of_cell? w _ p0
  have ha := fun W => as33 W (.pointer (some ⟨ge, 0, none⟩))
  go_enter Tryd.func49, Tryd.ntmps49
  go_wp2_with fail
  obtain ⟨w2, hw2⟩ : ∃ w2, w2 = w.alloc (.cells #[.iface 33 (.pointer (some ⟨ge, 0, none⟩)), .int .i32 0] 43) := ⟨_, rfl⟩
  have HK2 : Hid (Kept w w2) := Lib.hid (by rw [hw2]; exact (Kept.refl _).alloc _)
  have s0 := HK2.out.cell p0
  have s1 := HK2.out.cell e0
  have s2 := HK2.out.cell e1
  rw [← hw2]
  clear hw2 p0 e0 e1 ha
  go_region_held3 (fun W => W.cell? ⟨gp, 0, none⟩ = some (.slice (some ⟨g, 0, none⟩) S S) ∧ W.cell? ⟨ge, 0, none⟩ = some (.int .u32 (p.1 : Int)) ∧ W.cell? ⟨ge, 1, none⟩ = some (.int .u32 (p.2 : Int))) (first | exact ⟨hkg.cell hs.1, hkg.cell hs.2.1, hkg.cell hs.2.2⟩ | exact hs | go_keep)
    (first | (go_at_call 58; refine (HF.out _ ?_).mono ?_; (repeat (first | exact HK2.out | apply Kept.drew)); rintro e w' ⟨rfl, hs, hA, hT⟩) | (go_at_call 57; refine (HG.out _ hA.out).mono ?_; rintro e w4 ⟨rfl, hkg⟩))
  rename_i hh
  clear hh hs s0 s1 s2
  have hv2 : Valid S (relink σ (path σ d p) r) r := (relink_valid ..).2 HV.out
  have hA4 := hA.out.kept hkg
  have k0 : w4.cell? ⟨bk r.1, r.2 * 10 + 8, none⟩ = some (.int .u8 ((symAt σ r).kind : Int)) := by
    rw [hA4.sym hv2 (by omega), ← relink_kind σ (path σ d p) r HV.out]; rfl
  have k1 : w4.cell? ⟨bk r.1, r.2 * 10 + 1, none⟩ = some (.string (symAt σ r).name) := by
    rw [hA4.sym hv2 (by omega), ← relink_name σ (path σ d p) r HV.out]; rfl
  have HT : Hid (Turn w w4 bk S) := Lib.hid (((Turn.of_kept HK2.out.drew bk S).trans hT.out).kept hkg)
  have HA4 := Lib.hid hA4
  clear hA4 hv2 hA hT hkg HF HG
  have HB : Hid (evalB (symAt σ r) = (decide ((symAt σ r).kind = 0) && ((symAt σ r).name.toList == [101, 118, 97, 108]))) := Lib.hid rfl
  generalize (symAt σ r).kind = k at *
  generalize (symAt σ r).name = nm at *
  by_cases hk : k = 0
  · have hb : ((k : Int) == 0) = true := by simp [hk]
    have HD : Hid (decide (k = 0) = true) := Lib.hid (by simpa using hk)
    clear hk
    go_wp2_with fail
    go_ret
    exact ⟨by rw [HB.out, HD.out, Bool.true_and]; rfl, HA4.out, HT.out⟩
  · have hb : ((k : Int) == 0) = false := by simp [hk]
    have HD : Hid (decide (k = 0) = false) := Lib.hid (by simpa using hk)
    clear hk
    go_wp2_with fail
    go_ret
    exact ⟨by rw [HB.out, HD.out]; rfl, HA4.out, HT.out⟩

theorem Prn.kept {w w2 : World} {gp g S : Nat} {bk : Nat → Nat} (h : Prn w gp g S bk) (k : Kept w w2) : Prn w2 gp g S bk := ⟨k.cell h.1, h.2⟩
theorem Idn.kept {w w2 : World} {ge S : Nat} {bk : Nat → Nat} {p : Ref} (h : Idn w ge S bk p) (k : Kept w w2) : Idn w2 ge S bk p := ⟨k.cell h.1, k.cell h.2.1, h.2.2⟩
theorem Prn.turn {w w2 : World} {gp g S : Nat} {bk : Nat → Nat} (h : Prn w gp g S bk) (k : Turn w w2 bk S) : Prn w2 gp g S bk := ⟨k.cell h.1 h.2, h.2⟩
theorem Idn.turn {w w2 : World} {ge S : Nat} {bk : Nat → Nat} {p : Ref} (h : Idn w ge S bk p) (k : Turn w w2 bk S) : Idn w2 ge S bk p := ⟨k.cell h.1 h.2.2, k.cell h.2.1 h.2.2, h.2.2⟩
theorem Asked.of_kept {w W w' : World} {g : Nat} {bk : Nat → Nat} {S : Nat} {σ : Tab} {d : Nat} {p r : Ref} {b : Bool} {e : Ending} (k : Kept w W) (h : Asked W g bk S σ d p r b e w') : Asked w g bk S σ d p r b e w' := ⟨h.1, h.2.1, (Turn.of_kept k bk S).trans h.2.2⟩

theorem unb11 (w : World) (gp ge g : Nat) (bk : Nat → Nat) (S : Nat) (σ : Tab) (d : Nat) (p r : Ref) (h : Arena w g bk S σ) (hI : Inv w) (hz : ∀ s, s < S → bk s ≠ 0) (hc : Chain S σ d p r) (hP : Prn w gp g S bk) (hE : Idn w ge S bk p) :
    Calls Tryd.prog 11 #[.pointer (some ⟨gp, 0, none⟩), exprV 33 ge] w (Asked w g bk S σ d p r (decide ((symAt σ r).kind = 0))) := by
  have HC := Lib.hid (fun W (k : Kept w W) => (unb48 W gp ge g bk S σ d p r (h.kept k) (hI.kept k) hz hc (hP.kept k) (hE.kept k)).mono (fun e w' => Asked.of_kept k))
  unfold exprV at HC ⊢
  clear h hI hz hc hP hE
  generalize decide ((symAt σ r).kind = 0) = bb at *
  go_enter Tryd.func11, Tryd.ntmps11
  go_wp2_with fail
  refine (HC.out _ ((Kept.refl _).alloc _)).mono ?_
  rintro e w' ⟨rfl, hA, hT⟩
  have HA := Lib.hid hA
  have HT := Lib.hid hT
  clear hA hT
  go_wp2_with fail
  go_ret
  exact ⟨rfl, HA.out, HT.out⟩
theorem unb12 (w : World) (gp ge g : Nat) (bk : Nat → Nat) (S : Nat) (σ : Tab) (d : Nat) (p r : Ref) (h : Arena w g bk S σ) (hI : Inv w) (hz : ∀ s, s < S → bk s ≠ 0) (hc : Chain S σ d p r) (hP : Prn w gp g S bk) (hE : Idn w ge S bk p) :
    Calls Tryd.prog 12 #[.pointer (some ⟨gp, 0, none⟩), exprV 33 ge] w (Asked w g bk S σ d p r (evalB (symAt σ r))) := by
  have HC := Lib.hid (fun W (k : Kept w W) => (unb49 W gp ge g bk S σ d p r (h.kept k) (hI.kept k) hz hc (hP.kept k) (hE.kept k)).mono (fun e w' => Asked.of_kept k))
  unfold exprV at HC ⊢
  clear h hI hz hc hP hE
  generalize evalB (symAt σ r) = bb at *
  go_enter Tryd.func12, Tryd.ntmps12
  go_wp2_with fail
  refine (HC.out _ ((Kept.refl _).alloc _)).mono ?_
  rintro e w' ⟨rfl, hA, hT⟩
  have HA := Lib.hid hA
  have HT := Lib.hid hT
  clear hA hT
  go_wp2_with fail
  go_ret
  exact ⟨rfl, HA.out, HT.out⟩
theorem no11 (w : World) (gp : Nat) (u : TypeId) (x : Value) (ha : ∀ W, (Instr.typeAssert (.iface u x) 39 33 true).run Tryd.prog W = .ok (.tuple #[.pointer none, .bool false]) W) :
    Calls Tryd.prog 11 #[.pointer (some ⟨gp, 0, none⟩), .agg #[.iface u x, .int .i32 0]] w fun e w' => e = .returned (.bool false) ∧ Kept w w' := by
  have HC := Lib.hid (fun W => no48 W gp u x ha)
  clear ha
  go_enter Tryd.func11, Tryd.ntmps11
  go_wp2_with fail
  refine (HC.out _).mono ?_
  rintro e w' ⟨rfl, hk⟩
  have HK := Lib.hid hk
  clear hk
  go_wp2_with fail
  go_ret
  exact ⟨rfl, ((Kept.refl _).alloc _).trans HK.out⟩
theorem nil11 (w : World) (gp : Nat) :
    Calls Tryd.prog 11 #[.pointer (some ⟨gp, 0, none⟩), .agg #[.nilIface, .int .i32 0]] w fun e w' => e = .returned (.bool false) ∧ Kept w w' := by
  have HC := Lib.hid (fun W => nil48 W gp)
  go_enter Tryd.func11, Tryd.ntmps11
  go_wp2_with fail
  refine (HC.out _).mono ?_
  rintro e w' ⟨rfl, hk⟩
  have HK := Lib.hid hk
  clear hk
  go_wp2_with fail
  go_ret
  exact ⟨rfl, ((Kept.refl _).alloc _).trans HK.out⟩

set_option maxRecDepth 100000 in
set_option maxHeartbeats 1000000 in
/-- a new printer over the map -/
theorem new9 (w : World) (g S : Nat) (bk : Nat → Nat) (hb : ∀ s, s < S → bk s < w.heap.size) :
    Calls Tryd.prog 9 #[mapV g S] w fun e w' => e = .returned (.pointer (some ⟨w.heap.size + 1, 0, none⟩)) ∧ Prn w' (w.heap.size + 1) g S bk ∧ Kept w w' := by
  unfold mapV
  go_enter Tryd.func9, Tryd.ntmps9
  go_wp2_with fail
  go_ret
  refine ⟨rfl, ⟨?_, fun s hs => by have := hb s hs; omega⟩, ((Kept.refl _).alloc _).alloc _⟩
  have h1 := heap_alloc_new (w.alloc (.cells #[.slice (some ⟨g, 0, none⟩) S S] 31)) (.cells (Tryd.zeroCells123.setIfInBounds 0 (.slice (some ⟨g, 0, none⟩) S S)) 123)
  have h2 : (w.alloc (.cells #[.slice (some ⟨g, 0, none⟩) S S] 31)).heap.size = w.heap.size + 1 := by simp
  rw [h2] at h1
  rw [cell_of_row _ _ 0 _ 123 (0, 0) h1, Array.getElem?_setIfInBounds_self_of_lt (of_decide_eq_true (by kernel_rfl))]
end Go.Proofs.YtijbmfmcpcpcaaaDoorR.unb
