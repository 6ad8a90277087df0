/-
  markFileLiveForTreeShaking and markPartLiveForTreeShaking over this seat's program: what they leave is a depth-first marking.
  Conditions: the files lie in memory as Mem says.
-/
import Derived.Test.YtbdchplgefgkjabTm
namespace Go.Proofs.Ytbdchplgefgkjab.tm
open Go.ChangeShapes Go.WideShapes Go.ChangeAt Go.RowKit
open kit dfs

theorem sizeP : (Try.prog.info? 120).map (·.size) = some 11 := by kernel_rfl
theorem sizeD : (Try.prog.info? 111).map (·.size) = some 2 := by kernel_rfl
def Marked (w : World) (cb LB ob n : Nat) (J PB : Nat → Nat) (DB : Nat → Nat → Nat) (F : Ct) (v : Nd) (d : Nd → Bool) (e : Ending) (w' : World) : Prop :=
  e = .returned (.tuple #[]) ∧ ∃ d2, Dfs (succ F) v d d2 ∧ Mem w' cb LB ob n J PB DB F d2 ∧ Turn w w' (MB n LB PB)
/-- the call that marks node v -/
def Mark (w : World) (cb LB ob n : Nat) (J PB : Nat → Nat) (DB : Nat → Nat → Nat) (F : Ct) (d : Nd → Bool) : Nd → Prop
  | .inl f => Calls Try.prog 18 #[.pointer (some ⟨cb, 0, none⟩), .int .u32 (f : Int)] w (Marked w cb LB ob n J PB DB F (.inl f) d)
  | .inr (f, p) => Calls Try.prog 17 #[.pointer (some ⟨cb, 0, none⟩), .int .u32 (f : Int), .int .u32 (p : Int)] w (Marked w cb LB ob n J PB DB F (.inr (f, p)) d)
def In (n : Nat) (F : Ct) : Nd → Prop
  | .inl f => f < n
  | .inr (f, p) => f < n ∧ p < np F f

section
variable (w : World) (cb LB ob n : Nat) (J PB : Nat → Nat) (DB : Nat → Nat → Nat) (F : Ct) (d : Nd → Bool)

set_option maxRecDepth 100000 in
set_option maxHeartbeats 4000000 in
theorem fileDone (f : Nat) (h : Mem w cb LB ob n J PB DB F d) (hf : f < n) (hd : d (.inl f) = true) : Mark w cb LB ob n J PB DB F d (.inl f) := by
  have c1 := h.ctxc.1
  obtain ⟨_, c3, _, _, _⟩ := h.file hf
  rw [hd] at c3
  have hn := h.fit.top
  have i0 : (0 : Int) ≤ (f : Int) := by omega
  have i1 : (f : Int) < (n : Int) := by omega
  have HM := Lib.hid h
  have HD := Lib.hid hd
  clear h hd
  unfold Mark
  go_enter Try.func18, Try.ntmps18
  go_wp2_with fail
  go_end0
  exact ⟨rfl, d, Dfs.done HD.out, HM.out, Turn.refl _ _⟩

set_option maxRecDepth 100000 in
set_option maxHeartbeats 4000000 in
theorem partDone (f p : Nat) (h : Mem w cb LB ob n J PB DB F d) (hf : f < n) (hp : p < np F f) (hd : d (.inr (f, p)) = true) : Mark w cb LB ob n J PB DB F d (.inr (f, p)) := by
  have c1 := h.ctxc.1
  obtain ⟨c2, _, _, c4, _⟩ := h.file hf
  obtain ⟨c5, _, _⟩ := h.part hf hp
  rw [hd] at c5
  have hn := h.fit.top
  have hm := h.fit.np f hf
  have i0 : (0 : Int) ≤ (f : Int) := by omega
  have i1 : (f : Int) < (n : Int) := by omega
  have i2 : (0 : Int) ≤ (p : Int) := by omega
  have i3 : (p : Int) < (np F f : Int) := by omega
  have tb : ∀ W : World, (Instr.typeAssert (.iface 121 (.pointer (some ⟨J f, 0, none⟩))) 160 121 false).run Try.prog W = .ok (.pointer (some ⟨J f, 0, none⟩)) W := fun W => by kernel_rfl
  have HM := Lib.hid h
  have HD := Lib.hid hd
  clear h hd
  unfold Mark
  go_enter Try.func17, Try.ntmps17
  go_wp2_with fail
  go_end0
  exact ⟨rfl, d, Dfs.done HD.out, HM.out, Turn.refl _ _⟩

def Fr (f j : Nat) (w' : World) : Prop := ∃ d2, Lp (succ F) (.inl f) (kept_ F f j) d d2 ∧ Mem w' cb LB ob n J PB DB F d2 ∧ Turn w w' (MB n LB PB)
def AtF (f : Nat) (t57 : Value) (w' : World) : Prop := ∃ j : Nat, j ≤ np F f ∧ t57 = .int .i64 (j : Int) ∧ Fr w cb LB ob n J PB DB F d f j w'

set_option maxRecDepth 100000 in
set_option maxHeartbeats 8000000 in
theorem fileS (f : Nat) (h : Mem w cb LB ob n J PB DB F d) (hf : f < n) (hd : d (.inl f) = false)
    (ih : ∀ (W : World) (d2 : Nd → Bool) (t : Nd), (∀ x, d x = true → d2 x = true) → d2 (.inl f) = true → In n F t → Mem W cb LB ob n J PB DB F d2 → Mark W cb LB ob n J PB DB F d2 t) : Mark w cb LB ob n J PB DB F d (.inl f) := by
  have c1 := h.ctxc.1
  obtain ⟨c2, c3, f3, c4, c5⟩ := h.file hf
  rw [hd] at c3
  have hn := h.fit.top
  have hm := h.fit.np f hf
  have i0 : (0 : Int) ≤ (f : Int) := by omega
  have i1 : (f : Int) < (n : Int) := by omega
  have tb : ∀ W : World, (Instr.typeAssert (.iface 121 (.pointer (some ⟨J f, 0, none⟩))) 160 121 true).run Try.prog W = .ok (.tuple #[.pointer (some ⟨J f, 0, none⟩), .bool true]) W := fun W => by kernel_rfl
  have hmk := h.markF hf
  have HT0 := Lib.hid ((Turn.refl w (MB n LB PB)).set (p := ⟨LB, f * 24 + 23, none⟩) (.inl rfl) (.bool true))
  have HM1 := Lib.hid hmk
  have e1 := hmk.ctxc.1
  obtain ⟨e2, _, _, e4, e5⟩ := hmk.file hf
  have HD := Lib.hid hd
  have HIH := Lib.hid ih
  clear h hd ih hmk
  unfold Mark
  go_enter Try.func18, Try.ntmps18
  go_upto_region 3 with fail
  generalize w.setCell ⟨LB, f * 24 + 23, none⟩ (.bool true) = w1 at *
  clear c1 c2 c3 c4 c5 f3
  go_wp2_with fail
  refine (valid 0 false rfl w1).mono ?_
  rintro e w2 ⟨rfl, k2⟩
  have g4 := k2.cell e4
  have HF0 : Hid (AtF w cb LB ob n J PB DB F d f (.int .i64 0) w2) := Lib.hid ⟨0, Nat.zero_le _, rfl, upd d (.inl f) true, Lp.start, HM1.out.kept k2, HT0.out.kept k2⟩
  clear e1 e2 e4 e5 HM1 k2
  go_wp2_with fail
  clear g4
  go_loopw [57] (fun t57 W => AtF w cb LB ob n J PB DB F d f t57 W) (fun t57 _ => np F f - (intOf t57).toNat)
  case atStart => exact HF0.out
  case round =>
    obtain ⟨j, hj, rfl, d2, hL, hM, hT⟩ := hrel
    have HL := Lib.hid hL
    have HT := Lib.hid hT
    clear hL hT HF0 HT0
    by_cases hlt : j < np F f
    · obtain ⟨cs, hl, hr, ho, h2, h8, h9⟩ := hM.whole hf hlt
      have HM := Lib.hid hM
      have hsz : (Try.prog.info? 120).map (·.size) = some cs.length := by rw [hl]; exact sizeP
      have j0 : (j : Int) < (np F f : Int) := by omega
      clear hM
      go_upto_region 11 with (first | (with_reducible refine wpList_load_mid rfl 120 (.tmp 60) rfl (PB f) (j * 11) rfl cs _ hr Try.underlying120 rfl hsz ?_) | (with_reducible refine wpList_store_mid rfl 120 (.tmp 7) (.tmp 61) rfl _ 0 cs.toArray rfl rfl (there_new _ _ _ _ (by simp [hl])) (by simpa using hsz) ho ?_))
      have hbx := boxed wr 120 #[.slice none 0 0, .slice none 0 0, .slice none 0 0, .slice none 0 0, .map none, .map none, .map none, .slice none 0 0, .bool false, .bool false, .bool false] cs (by simp [hl])
      generalize (wr.alloc (.cells #[.slice none 0 0, .slice none 0 0, .slice none 0 0, .slice none 0 0, .map none, .map none, .map none, .slice none 0 0, .bool false, .bool false, .bool false] 120)).setCells wr.heap.size 0 cs = w3 at *
      have K3 := Lib.hid hbx.1
      have b2 := hbx.2 2 _ h2
      have b8 := hbx.2 8 _ h8
      have b9 := hbx.2 9 _ h9
      clear hbx hl hr ho h2 h8 h9 hsz
      generalize wr.heap.size = q at *
      have HM3 := Lib.hid (HM.out.kept K3.out)
      have HT3 := Lib.hid (HT.out.kept K3.out)
      obtain ⟨a1, a2, a3⟩ := HM3.out.ctxc
      go_wp2_with fail
      go_loopw [8, 67] (fun t8 t67 W => t8 = .bool (!keep F f j) ∧ t67 = .int .i64 0 ∧ W = w3) (fun _ _ _ => 0)
      case atStart => exact ⟨rfl, rfl, rfl⟩
      case round =>
        obtain ⟨rfl, rfl, rfl⟩ := hrel
        cases hk : keep F f j
        · have HK := Lib.hid hk
          clear hk
          simp only [Bool.not_false]
          go_wp2_with fail
          go_roundw
          case rel => exact ⟨j + 1, by omega, by go_num, d2, by rw [kept_succ, HK.out]; simpa using HL.out, HM3.out, HT3.out⟩
          case measure => simp [intOf]; omega
        · have HK := Lib.hid hk
          clear hk
          simp only [Bool.not_true]
          have W32 : IntKind.u32.wrap (j : Int) = (j : Int) := by rw [IntKind.wrap_u32]; omega
          go_wp2_with fail
          have hc := HIH.out _ d2 (.inr (f, j)) HL.out.mono HL.out.hit ⟨hf, hlt⟩ HM3.out
          unfold Mark at hc
          refine hc.mono ?_
          rintro e w4 ⟨rfl, d3, hD3, hM3, hT3⟩
          have HD3 := Lib.hid hD3
          have HM4 := Lib.hid hM3
          have HT4 := Lib.hid hT3
          clear hc hD3 hM3 hT3
          go_wp2_with fail
          go_roundw
          case rel =>
            refine ⟨j + 1, by omega, by go_num, d3, ?_, HM4.out, HT3.out.trans HT4.out⟩
            rw [kept_succ, if_pos HK.out]
            refine HL.out.step ?_ HD3.out
            exact List.mem_map.2 ⟨j, List.mem_filter.2 ⟨List.mem_range.2 hlt, HK.out⟩, rfl⟩
          case measure => simp [intOf]; omega
    · obtain rfl : j = np F f := by omega
      go_wp2_with fail
      go_end0
      exact ⟨rfl, d2, HL.out.fin (fun t ht => ht), hM, HT.out⟩

def Pr (f p k : Nat) (w' : World) : Prop := ∃ d2, Lp (succ F) (.inr (f, p)) (.inl f :: ((deps F f p).take k).map .inr) d d2 ∧ Mem w' cb LB ob n J PB DB F d2 ∧ Turn w w' (MB n LB PB)
def AtP (f p : Nat) (t46 : Value) (w' : World) : Prop := ∃ k : Nat, k ≤ (deps F f p).length ∧ t46 = .int .i64 (k : Int) ∧ Pr w cb LB ob n J PB DB F d f p k w'

set_option maxRecDepth 100000 in
set_option maxHeartbeats 8000000 in
theorem partS (f p : Nat) (h : Mem w cb LB ob n J PB DB F d) (hf : f < n) (hp : p < np F f) (hd : d (.inr (f, p)) = false)
    (ih : ∀ (W : World) (d2 : Nd → Bool) (t : Nd), (∀ x, d x = true → d2 x = true) → d2 (.inr (f, p)) = true → In n F t → Mem W cb LB ob n J PB DB F d2 → Mark W cb LB ob n J PB DB F d2 t) : Mark w cb LB ob n J PB DB F d (.inr (f, p)) := by
  have c1 := h.ctxc.1
  obtain ⟨c2, _, _, c4, _⟩ := h.file hf
  obtain ⟨c5, f5, _⟩ := h.part hf hp
  rw [hd] at c5
  have hn := h.fit.top
  have hm := h.fit.np f hf
  have hnd := h.fit.nd f hf p hp
  have hok := h.fit.ok f hf p hp
  have i0 : (0 : Int) ≤ (f : Int) := by omega
  have i1 : (f : Int) < (n : Int) := by omega
  have i2 : (0 : Int) ≤ (p : Int) := by omega
  have i3 : (p : Int) < (np F f : Int) := by omega
  have tb : ∀ W : World, (Instr.typeAssert (.iface 121 (.pointer (some ⟨J f, 0, none⟩))) 160 121 false).run Try.prog W = .ok (.pointer (some ⟨J f, 0, none⟩)) W := fun W => by kernel_rfl
  have hmk := h.markP hf hp
  have HT0 := Lib.hid ((Turn.refl w (MB n LB PB)).set (p := ⟨PB f, p * 11 + 10, none⟩) (.inr ⟨f, hf, rfl⟩) (.bool true))
  have HM1 := Lib.hid hmk
  have HOK := Lib.hid hok
  have HIH := Lib.hid ih
  clear h hd ih hmk hok
  unfold Mark
  go_enter Try.func17, Try.ntmps17
  go_upto_region 5 with fail
  generalize w.setCell ⟨PB f, p * 11 + 10, none⟩ (.bool true) = w1 at *
  clear c1 c2 c4 c5 f5
  go_wp2_with fail
  have hc := HIH.out w1 (upd d (.inr (f, p)) true) (.inl f) (fun x hx => upd_up hx) (upd_same _ _ _) hf HM1.out
  unfold Mark at hc
  refine hc.mono ?_
  rintro e w2 ⟨rfl, d2, hD2, hM2, hT2⟩
  have HP0 : Hid (AtP w cb LB ob n J PB DB F d f p (.int .i64 0) w2) := Lib.hid ⟨0, Nat.zero_le _, rfl, d2, (Lp.start.step (List.mem_cons_self ..) hD2), hM2, HT0.out.trans hT2⟩
  have g7 := (hM2.part hf hp).2.2
  clear hc hD2 hM2 hT2 HM1 HT0
  go_wp2_with fail
  clear g7
  go_loopw [46] (fun t46 W => AtP w cb LB ob n J PB DB F d f p t46 W) (fun t46 _ => (deps F f p).length - (intOf t46).toNat)
  case atStart => exact HP0.out
  case round =>
    obtain ⟨k, hk, rfl, d3, hL, hM, hT⟩ := hrel
    have HL := Lib.hid hL
    have HT := Lib.hid hT
    clear hL hT HP0
    by_cases hlt : k < (deps F f p).length
    · have hb := hM.deps f hf p hp
      obtain ⟨q1, q2⟩ := depCells_at (deps F f p) k hlt
      have HM := Lib.hid hM
      have z1 : wr.cell? ⟨DB f p, k * 2, none⟩ = some (.int .u32 ((deps F f p)[k].1 : Int)) := by rw [hb.cell]; exact q1
      have z2 : wr.cell? ⟨DB f p, k * 2 + 1, none⟩ = some (.int .u32 ((deps F f p)[k].2 : Int)) := by rw [hb.cell]; exact q2
      have hx := HOK.out _ (List.getElem_mem hlt)
      have HTK : Hid ((deps F f p).take (k + 1) = (deps F f p).take k ++ [(deps F f p)[k]]) := Lib.hid (List.take_succ_eq_append_getElem hlt)
      have HIN : Hid ((deps F f p)[k] ∈ deps F f p) := Lib.hid (List.getElem_mem hlt)
      generalize (deps F f p)[k] = x at *
      obtain ⟨x1, x2⟩ := x
      simp only at z1 z2
      have HX : Hid (In n F (.inr (x1, x2))) := Lib.hid hx
      have k0 : (k : Int) < ((deps F f p).length : Int) := by omega
      clear hM hb q1 q2 hx
      go_wp2_with fail
      have hc := HIH.out (wr.alloc (.cells #[.int .u32 (x1 : Int), .int .u32 (x2 : Int)] 111)) d3 (.inr (x1, x2)) HL.out.mono HL.out.hit HX.out (HM.out.kept ((Kept.refl wr).alloc _))
      unfold Mark at hc
      refine hc.mono ?_
      rintro e w4 ⟨rfl, d4, hD4, hM4, hT4⟩
      have HD4 := Lib.hid hD4
      have HM4 := Lib.hid hM4
      have HT4 := Lib.hid hT4
      clear hc hD4 hM4 hT4 z1 z2
      go_wp2_with fail
      go_roundw
      case rel =>
        refine ⟨k + 1, by omega, by go_num, d4, ?_, HM4.out, (HT.out.kept ((Kept.refl wr).alloc _)).trans HT4.out⟩
        rw [HTK.out, List.map_append, ← List.cons_append]
        refine HL.out.step ?_ HD4.out
        exact List.mem_cons_of_mem _ (List.mem_map.2 ⟨_, HIN.out, rfl⟩)
      case measure => simp [intOf]; omega
    · obtain rfl : k = (deps F f p).length := by omega
      rw [List.take_length] at HL
      go_wp2_with fail
      go_end0
      exact ⟨rfl, d3, HL.out.fin (fun t ht => ht), hM, HT.out⟩
end

/-- all the nodes -/
def univ (n : Nat) (F : Ct) : List Nd := (List.range n).map .inl ++ (List.range n).flatMap fun f => (List.range (np F f)).map fun p => .inr (f, p)
theorem univ_mem {n : Nat} {F : Ct} {v : Nd} (h : In n F v) : v ∈ univ n F := by
  unfold univ
  rcases v with f | ⟨f, p⟩
  · exact List.mem_append_left _ (List.mem_map.2 ⟨f, List.mem_range.2 h, rfl⟩)
  · exact List.mem_append_right _ (List.mem_flatMap.2 ⟨f, List.mem_range.2 h.1, List.mem_map.2 ⟨p, List.mem_range.2 h.2, rfl⟩⟩)
theorem markAll (cb LB ob n : Nat) (J PB : Nat → Nat) (DB : Nat → Nat → Nat) (F : Ct) (N : Nat) : ∀ (w : World) (d : Nd → Bool) (v : Nd), free (univ n F) d ≤ N → Mem w cb LB ob n J PB DB F d → In n F v → Mark w cb LB ob n J PB DB F d v := by
  induction N with
  | zero =>
    intro w d v hN h hv
    have hd : d v = true := by
      cases e : d v
      · have := free_lt (d := d) (d2 := upd d v true) (fun x hx => upd_up hx) (univ_mem hv) e (upd_same _ _ _)
        omega
      · rfl
    rcases v with f | ⟨f, p⟩
    · exact fileDone w cb LB ob n J PB DB F d f h hv hd
    · exact partDone w cb LB ob n J PB DB F d f p h hv.1 hv.2 hd
  | succ N ih =>
    intro w d v hN h hv
    have next : d v = false → ∀ (W : World) (d2 : Nd → Bool) (t : Nd), (∀ x, d x = true → d2 x = true) → d2 v = true → In n F t → Mem W cb LB ob n J PB DB F d2 → Mark W cb LB ob n J PB DB F d2 t := fun hd W d2 t hm h2 ht hM => by
      refine ih W d2 t ?_ hM ht
      have := free_lt hm (univ_mem hv) hd h2
      omega
    rcases v with f | ⟨f, p⟩
    · cases hd : d (.inl f)
      · exact fileS w cb LB ob n J PB DB F d f h hv hd (next hd)
      · exact fileDone w cb LB ob n J PB DB F d f h hv hd
    · cases hd : d (.inr (f, p))
      · exact partS w cb LB ob n J PB DB F d f p h hv.1 hv.2 hd (next hd)
      · exact partDone w cb LB ob n J PB DB F d f p h hv.1 hv.2 hd
/-- ZZmarkPartLiveForTreeShaking -/
theorem zzmark (cb LB ob n : Nat) (J PB : Nat → Nat) (DB : Nat → Nat → Nat) (F : Ct) (w : World) (d : Nd → Bool) (f p : Nat) (h : Mem w cb LB ob n J PB DB F d) (hf : f < n) (hp : p < np F f) :
    Calls Try.prog 13 #[.pointer (some ⟨cb, 0, none⟩), .int .u32 (f : Int), .int .u32 (p : Int)] w (Marked w cb LB ob n J PB DB F (.inr (f, p)) d) := by
  have hc := markAll cb LB ob n J PB DB F _ w d (.inr (f, p)) (Nat.le_refl _) h ⟨hf, hp⟩
  unfold Mark at hc
  have HC := Lib.hid hc
  clear h hc
  go_enter Try.func13, Try.ntmps13
  go_wp2_with fail
  refine HC.out.mono ?_
  rintro e w2 ⟨rfl, r⟩
  have HR := Lib.hid r
  clear r
  go_wp2_with fail
  go_end0
  exact ⟨rfl, HR.out⟩
/-- ZZfileIsLive -/
theorem isLive (cb LB ob n : Nat) (J PB : Nat → Nat) (DB : Nat → Nat → Nat) (F : Ct) (w : World) (d : Nd → Bool) (f : Nat) (h : Mem w cb LB ob n J PB DB F d) (hf : f < n) :
    Calls Try.prog 14 #[.pointer (some ⟨cb, 0, none⟩), .int .u32 (f : Int)] w fun e w' => e = .returned (.bool (d (.inl f))) ∧ w = w' := by
  have c1 := h.ctxc.1
  obtain ⟨_, c3, _, _, _⟩ := h.file hf
  have hn := h.fit.top
  have i0 : (0 : Int) ≤ (f : Int) := by omega
  have i1 : (f : Int) < (n : Int) := by omega
  clear h
  go_enter Try.func14, Try.ntmps14
  go_wp2_with fail
  go_ret
  exact ⟨rfl, rfl⟩
end Go.Proofs.Ytbdchplgefgkjab.tm
