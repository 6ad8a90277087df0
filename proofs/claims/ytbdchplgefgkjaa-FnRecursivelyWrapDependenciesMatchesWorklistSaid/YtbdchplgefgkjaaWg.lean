/-
  buildWrapReprs over this seat's program: what it lays in memory.
  Conditions: the files are readable and fit.
-/
import Derived.Test.YtbdchplgefgkjaaWb
import Derived.Test.YtbdchplgefgkjaaWf
import Derived.Test.YtbdchplgefgkjaaMk1
namespace Go.Proofs.Ytbdchplgefgkjaa.wm
open Go.ChangeShapes Go.WideShapes Go.ChangeAt Go.RowKit
open kit wrp

def tg (x : Int) : Option Nat := if 0 ≤ x then some x.toNat else none
def Kf (fs : List WF) (i : Nat) : Nat := (fs.getD i default).im.length
def Tf (fs : List WF) (i j : Nat) : Option Nat := tg ((fs.getD i default).im.getD j 0)

/-- one file's JSRepr in block Jb, its records in block Rb -/
def One (W : World) (Jb Rb : Nat) (f : WF) : Prop :=
  (∃ cs, Blk W Jb 86 cs ∧ cs.length = 64 ∧ cs[15]? = some (.bool f.did) ∧ cs[11]? = some (.int .u8 f.wr) ∧ cs[62]? = some (.int .u8 f.ek) ∧ cs[35]? = some (.slice (some ⟨Rb, 0, none⟩) f.im.length f.im.length)) ∧
  ∃ cs, Blk W Rb 101 cs ∧ cs.length = f.im.length * 15 ∧ (∀ v ∈ cs, v.oneCell' = true) ∧ ∀ k, k < f.im.length → cs[k * 15 + 10]? = some (.int .u32 (flag (tg (f.im.getD k 0))))
theorem One.kept {W W2 : World} {Jb Rb : Nat} {f : WF} (h : One W Jb Rb f) (k : Kept W W2) : One W2 Jb Rb f := by
  obtain ⟨⟨c1, h1, r1⟩, c2, h2, r2⟩ := h
  exact ⟨⟨c1, h1.kept k, r1⟩, c2, h2.kept k, r2⟩
theorem One.far {W : World} {Jb Rb : Nat} {f : WF} (h : One W Jb Rb f) {b t : Nat} {cs : List Value} (hb : Blk W b t cs) (h1 : 86 ≠ t) (h2 : 101 ≠ t) (o : Nat) (u : Value) : One (W.setCell ⟨b, o, none⟩ u) Jb Rb f := by
  obtain ⟨⟨c1, q1, r1⟩, c2, q2, r2⟩ := h
  exact ⟨⟨c1, q1.far (q1.apart hb h1) _, r1⟩, c2, q2.far (q2.apart hb h2) _, r2⟩
theorem One.fars {W : World} {Jb Rb : Nat} {f : WF} (h : One W Jb Rb f) {b t : Nat} {cs : List Value} (hb : Blk W b t cs) (h1 : 86 ≠ t) (h2 : 101 ≠ t) (o : Nat) (vs : List Value) : One (W.setCells b o vs) Jb Rb f := by
  obtain ⟨⟨c1, q1, r1⟩, c2, q2, r2⟩ := h
  exact ⟨⟨c1, Blk.setCellsFar (q1.apart hb h1) _ _ _ _ q1, r1⟩, c2, Blk.setCellsFar (q2.apart hb h2) _ _ _ _ q2, r2⟩

structure Bd (w0 wr : World) (n i : Nat) (J RB : Nat → Nat) (fs : List WF) : Prop where
  kept : Kept w0 wr
  rp : ∃ cs, Blk wr w0.heap.size 87 cs ∧ cs.length = n ∧ ∀ j, j < i → cs[j]? = some (.pointer (some ⟨J j, 0, none⟩))
  lf : ∃ cs, Blk wr (w0.heap.size + 1) 123 cs ∧ cs.length = n * 24 ∧ ∀ j, j < i → cs[j * 24 + 2]? = some (.iface 87 (.pointer (some ⟨J j, 0, none⟩)))
  one : ∀ j, j < i → J j < wr.heap.size ∧ w0.heap.size ≤ J j ∧ One wr (J j) (RB j) (fs.getD j default)
  apart : ∀ j k, j < i → k < i → J j = J k → j = k

theorem Bd.step {w0 wr W1 W2 : World} {n i Jb Rb : Nat} {J RB : Nat → Nat} {fs : List WF} {A : Array Value} (h : Bd w0 wr n i J RB fs) (k1 : Kept wr W1) (hO : One W1 Jb Rb (fs.getD i default)) (hJ : wr.heap.size ≤ Jb) (hi : i < n)
    (k2 : Kept (W1.setCell ⟨w0.heap.size, i, none⟩ (.pointer (some ⟨Jb, 0, none⟩))) W2) (hA : FileV Jb A) :
    Bd w0 (W2.setCells (w0.heap.size + 1) (i * 24) A.toList) n (i + 1) (upd J i Jb) (upd RB i Rb) fs := by
  obtain ⟨c1, p1, l1, e1⟩ := h.rp
  obtain ⟨c2, p2, l2, e2⟩ := h.lf
  have q1 := p1.kept k1
  have q2 := p2.kept k1
  have s1 := (q1.set i (.pointer (some ⟨Jb, 0, none⟩))).kept k2
  have s2 := (q2.far (p := ⟨w0.heap.size, i, none⟩) (by show w0.heap.size + 1 ≠ w0.heap.size; omega) (.pointer (some ⟨Jb, 0, none⟩))).kept k2
  have hA24 : A.toList.length = 24 := by simpa using hA.1
  have hr : i * 24 + 24 ≤ n * 24 := by have := Nat.mul_le_mul_right 24 (show i + 1 ≤ n by omega); omega
  obtain ⟨c3, t2, l3, a3, b3⟩ := Blk.setCells A.toList (i * 24) W2 _ s2 (by rw [hA24, l2]; exact hr)
  have t1 := Blk.setCellsFar (b := w0.heap.size + 1) (by omega) A.toList (i * 24) W2 _ s1
  have hJlt : ∀ j, j < i → J j ≠ Jb := fun j hj e => by have := (h.one j hj).1; omega
  have hOne : ∀ {jb rb : Nat} {f : WF}, One W1 jb rb f → One (W2.setCells (w0.heap.size + 1) (i * 24) A.toList) jb rb f := fun q =>
    ((q.far q1 (by decide) (by decide) i _).kept k2).fars s2 (by decide) (by decide) _ _
  have hsz : ∀ (vs : List Value) (o : Nat) (W : World), (W.setCells (w0.heap.size + 1) o vs).heap.size = W.heap.size := by
    intro vs
    induction vs with
    | nil => intro o W; rfl
    | cons v r ih => intro o W; show ((W.setCell _ v).setCells _ (o + 1) r).heap.size = _; rw [ih]; simp [World.setCell]
  have hJ2 : Jb < W1.heap.size := by obtain ⟨⟨c, q, _⟩, _⟩ := hO; exact q.lt
  have hs2 := k2.size
  have hs2' : (W1.setCell ⟨w0.heap.size, i, none⟩ (.pointer (some ⟨Jb, 0, none⟩))).heap.size = W1.heap.size := by simp [World.setCell]
  have hs0 := h.kept.size
  have hs1 := k1.size
  refine ⟨Kept.setCells _ _ _ (((h.kept.trans k1).setCell (p := ⟨w0.heap.size, i, none⟩) (Nat.le_refl _) _).trans k2) (by omega), ⟨_, t1, by rw [List.length_set]; exact l1, fun j hj => ?_⟩, ⟨c3, t2, l3.trans l2, fun j hj => ?_⟩, fun j hj => ?_, fun j k hj hk e => ?_⟩
  · by_cases ej : j = i
    · rw [ej, upd_same, List.getElem?_set_self (by omega)]
    · rw [upd_ne _ _ ej, List.getElem?_set_ne (by omega), e1 j (by omega)]
  · by_cases ej : j = i
    · rw [ej, upd_same, b3 2 (by omega)]
      simpa using hA.2.1
    · rw [upd_ne _ _ ej, a3 _ (by omega), e2 j (by omega)]
  · rw [hsz]
    by_cases ej : j = i
    · rw [ej, upd_same, upd_same]
      exact ⟨by omega, by omega, hOne hO⟩
    · rw [upd_ne _ _ ej, upd_ne _ _ ej]
      obtain ⟨o1, o2, o3⟩ := h.one j (by omega)
      exact ⟨by omega, o2, hOne (o3.kept k1)⟩
  · by_cases ej : j = i
    · by_cases ek : k = i
      · rw [ej, ek]
      · rw [ej, upd_same, upd_ne _ _ ek] at e
        exact absurd e.symm (hJlt k (by omega))
    · by_cases ek : k = i
      · rw [ek, upd_same, upd_ne _ _ ej] at e
        exact absurd e (hJlt j (by omega))
      · rw [upd_ne _ _ ej, upd_ne _ _ ek] at e
        exact h.apart j k (by omega) (by omega) e

/-- the records of one file, j of them laid -/
structure Rc (w1 wr : World) (im : List Int) (j : Nat) : Prop where
  kept : Kept w1 wr
  blk : ∃ cs, Blk wr w1.heap.size 101 cs ∧ cs.length = im.length * 15 ∧ (∀ v ∈ cs, v.oneCell' = true) ∧ ∀ k, k < im.length → cs[k * 15 + 10]? = some (.int .u32 (if k < j then flag (tg (im.getD k 0)) else 0))
theorem one_set {cs : List Value} {i : Nat} {u : Value} (h : ∀ v ∈ cs, v.oneCell' = true) (hu : u.oneCell' = true) : ∀ v ∈ cs.set i u, v.oneCell' = true := fun v hv => by
  rcases List.mem_or_eq_of_mem_set hv with hv | hv
  · exact h v hv
  · rw [hv]; exact hu
theorem Rc.yes {w1 wr W : World} {im : List Int} {j : Nat} (h : Rc w1 wr im j) (k : Kept wr W) (hj : j < im.length) (hx : 0 ≤ im.getD j 0) : Rc w1 (W.setCell ⟨w1.heap.size, j * 15 + 10, none⟩ (.int .u32 (4294967295 - im.getD j 0))) im (j + 1) := by
  obtain ⟨cs, hb, hl, h1, h2⟩ := h.blk
  refine ⟨(h.kept.trans k).setCell (Nat.le_refl _) _, _, (hb.kept k).set _ _, by rw [List.length_set]; exact hl, one_set h1 rfl, fun q hq => ?_⟩
  by_cases e : q = j
  · subst e
    rw [List.getElem?_set_self (by rw [hl]; omega), if_pos (by omega)]
    unfold tg flag
    rw [if_pos hx]
    simp only
    rw [Int.toNat_of_nonneg hx]
  · rw [List.getElem?_set_ne (by omega), h2 q hq]
    by_cases c : q < j
    · rw [if_pos c, if_pos (by omega)]
    · rw [if_neg c, if_neg (by omega)]
theorem Rc.no {w1 wr : World} {im : List Int} {j : Nat} (h : Rc w1 wr im j) (hx : ¬ 0 ≤ im.getD j 0) : Rc w1 wr im (j + 1) := by
  obtain ⟨cs, hb, hl, h1, h2⟩ := h.blk
  refine ⟨h.kept, cs, hb, hl, h1, fun q hq => ?_⟩
  rw [h2 q hq]
  by_cases e : q = j
  · subst e
    rw [if_neg (by omega), if_pos (by omega)]
    unfold tg flag
    rw [if_neg hx]
  · by_cases c : q < j
    · rw [if_pos c, if_pos (by omega)]
    · rw [if_neg c, if_neg (by omega)]

/-- what buildWrapReprs hands back -/
def Built (w : World) (n : Nat) (fs : List WF) (e : Ending) (w' : World) : Prop :=
  e = .returned (.tuple #[.slice (some ⟨w.heap.size, 0, none⟩) n n, .slice (some ⟨w.heap.size + 1, 0, none⟩) n n]) ∧ ∃ J RB, Bd w w' n n J RB fs
def B6 (w : World) (n : Nat) (fs : List WF) (t6 : Value) (wr : World) : Prop := ∃ (i : Nat) (J RB : Nat → Nat), i ≤ n ∧ t6 = .int .i64 (i : Int) ∧ Bd w wr n i J RB fs
def B9 (w1 : World) (im : List Int) (t9 : Value) (wr : World) : Prop := ∃ j : Nat, j ≤ im.length ∧ t9 = .int .i64 (j : Int) ∧ Rc w1 wr im j
/-- a fresh JSRepr with its three numbers -/
def Js1 (wr W : World) (f : WF) : Prop := Kept wr W ∧ ∃ cs, Blk W wr.heap.size 86 cs ∧ cs.length = 64 ∧ cs[15]? = some (.bool f.did) ∧ cs[11]? = some (.int .u8 f.wr) ∧ cs[62]? = some (.int .u8 f.ek)

set_option maxRecDepth 100000 in
set_option maxHeartbeats 16000000 in
theorem build (w : World) (a : Option Addr) (n c : Nat) (fs : List WF) (h : Fs w a n fs) (hf : Fit n fs) :
    Calls Try.prog 6 #[.slice a n c] w (Built w n fs) := by
  have hn := hf.top
  obtain ⟨C1, l1, g1, m1⟩ := makeN (T := 26) (E := 87) (size := 1) (bytes := 8) Try.underlying26 (by kernel_rfl) n (by omega) (by omega)
  obtain ⟨C2, l2, g2, m2⟩ := makeN (T := 27) (E := 123) (size := 24) (bytes := 280) Try.underlying27 (by kernel_rfl) n (by omega) (by omega)
  obtain ⟨CS, hCS, lS⟩ := built_of (t := 86) (n := 64) (by kernel_rfl)
  have HCS := Lib.hid hCS
  have LS := Lib.hid lS
  have HF := Lib.hid h
  have HT := Lib.hid hf
  have L1 := Lib.hid l1
  have L2 := Lib.hid l2
  clear h hf hCS lS l1 l2 g1 g2
  go_enter Try.func6, Try.ntmps6
  go_wp2_with fail
  have HB0 : Hid (B6 w n fs (.int .i64 0) ((w.alloc (.cells C1.toArray 87)).alloc (.cells C2.toArray 123))) := Lib.hid ⟨0, fun _ => 0, fun _ => 0, Nat.zero_le _, rfl, ((Kept.refl w).alloc _).alloc _,
    ⟨C1, (Blk.new w 87 C1).alloc _, by simpa using L1.out, fun j hj => absurd hj (by omega)⟩,
    ⟨C2, by have := Blk.new (w.alloc (.cells C1.toArray 87)) 123 C2; simpa using this, L2.out, fun j hj => absurd hj (by omega)⟩, fun j hj => absurd hj (by omega), fun j k hj => absurd hj (by omega)⟩
  clear m1 m2
  generalize (w.alloc (.cells C1.toArray 87)).alloc (.cells C2.toArray 123) = wa at *
  go_loopw [6] (fun t6 W => B6 w n fs t6 W) (fun t6 _ => n - (intOf t6).toNat)
  case atStart => exact HB0.out
  case round =>
    obtain ⟨i, J, RB, hi, rfl, hB⟩ := hrel
    obtain ⟨wo, rfl⟩ : ∃ wo : World, wo = wr := ⟨_, rfl⟩
    have HB := Lib.hid hB
    clear hB HB0
    by_cases hlt : i < n
    · obtain ⟨b, off, rfl, hbl, c0, c1, c2, c3, hr⟩ := HF.out.at_ hlt
      have d0 := HB.out.kept.cell c0
      have d1 := HB.out.kept.cell c1
      have d2 := HB.out.kept.cell c2
      have d3 := HB.out.kept.cell c3
      have HR := Lib.hid (hr.kept HB.out.kept)
      have i0 : (i : Int) < (n : Int) := by omega
      clear c0 c1 c2 c3 hr
      have HN1 : Hid ((fs.getD i default).im.length ≤ 262144) := Lib.hid (HT.out.len i hlt)
      have HLO := Lib.hid (HT.out.low i hlt)
      generalize hfi : fs.getD i default = f at *
      have HFI := Lib.hid hfi
      clear hfi
      obtain ⟨ek, wk, did, im, ia, ic⟩ := f
      simp only at d0 d1 d2 d3
      have HR : Hid (Row wo ia im.length ic (im.map (Value.int .i32))) := HR
      have HN1 : Hid (im.length ≤ 262144) := HN1
      have HLO : Hid (∀ j, j < im.length → im.getD j 0 < (n : Int)) := HLO
      have nq : b ≠ wo.heap.size := by have := HB.out.kept.size; omega
      go_upto_region 7 with (with_reducible refine wp_build0 rfl 86 rfl CS HCS.out ?_)
      have b1 : Blk (wo.alloc (.cells CS 86)) wo.heap.size 86 CS.toList := by have := Blk.new wo 86 CS.toList; simpa using this
      have K1 : Hid (Kept wo (wo.alloc (.cells CS 86))) := Lib.hid ((Kept.refl wo).alloc _)
      have x0 := K1.out.cell d0
      have x1 := K1.out.cell d1
      have x2 := K1.out.cell d2
      have x3 := K1.out.cell d3
      generalize wo.alloc (.cells CS 86) = W1 at *
      have s64 : CS.toList.length = 64 := by simpa using LS.out
      obtain ⟨v1, z1, y1⟩ := b1.has (i := 62) (by omega)
      obtain ⟨v2, z2, y2⟩ := b1.has (i := 11) (by omega)
      obtain ⟨v3, z3, y3⟩ := b1.has (i := 15) (by omega)
      have B1 := Lib.hid b1
      have S64 := Lib.hid s64
      clear b1 s64 d0 d1 d2
      go_upto_region 10 with fail
      have hj1 : Js1 wo (((W1.setCell ⟨wo.heap.size, 62, none⟩ (.int .u8 ek)).setCell ⟨wo.heap.size, 11, none⟩ (.int .u8 wk)).setCell ⟨wo.heap.size, 15, none⟩ (.bool did)) ⟨ek, wk, did, im, ia, ic⟩ :=
        ⟨((K1.out.setCell (p := ⟨wo.heap.size, 62, none⟩) (Nat.le_refl _) _).setCell (p := ⟨wo.heap.size, 11, none⟩) (Nat.le_refl _) _).setCell (p := ⟨wo.heap.size, 15, none⟩) (Nat.le_refl _) _, _, ((B1.out.set 62 _).set 11 _).set 15 _, by simp [S64.out],
          by rw [List.getElem?_set_self (by simp [S64.out])], by rw [List.getElem?_set_ne (by omega), List.getElem?_set_self (by simp [S64.out])], by rw [List.getElem?_set_ne (by omega), List.getElem?_set_ne (by omega), List.getElem?_set_self (by simp [S64.out])]⟩
      have HJ1 := Lib.hid hj1
      clear hj1 B1 S64 K1 x0 x1 x2 x3 y1 y2 y3 z1 z2 z3
      generalize ((W1.setCell ⟨wo.heap.size, 62, none⟩ (.int .u8 ek)).setCell ⟨wo.heap.size, 11, none⟩ (.int .u8 wk)).setCell ⟨wo.heap.size, 15, none⟩ (.bool did) = W2 at *
      have x3 := HJ1.out.1.cell d3
      clear d3
      have hm : im.length ≤ 262144 := HN1.out
      obtain ⟨C3, l3, o3, g3, m3⟩ := makeN1 (T := 73) (E := 101) (size := 15) (bytes := 112) Try.underlying73 (by kernel_rfl) (by kernel_rfl) im.length (by omega) (by omega)
      have hz3 := g3 10 (.int .u32 0) (by omega) (by kernel_rfl)
      have hR0 : Rc W2 (W2.alloc (.cells C3.toArray 101)) im 0 := ⟨(Kept.refl _).alloc _, C3, Blk.new _ _ _, l3, o3, fun k hk => by rw [if_neg (by omega)]; exact hz3 k hk⟩
      have HR0 := Lib.hid hR0
      clear g3 hz3 hR0 l3 o3
      go_wp2_with fail
      generalize W2.alloc (.cells C3.toArray 101) = wb at *
      clear m3
      go_loopw [9] (fun t9 W => B9 W2 im t9 W) (fun t9 _ => im.length - (intOf t9).toNat)
      case atStart => exact ⟨0, Nat.zero_le _, rfl, HR0.out⟩
      case round =>
        obtain ⟨j, hj, rfl, hRc⟩ := hrel
        have HRc := Lib.hid hRc
        clear hRc HR0
        have x3 := HRc.out.kept.cell x3
        by_cases hlt2 : j < im.length
        · obtain ⟨b2, off2, rfl, _, xj⟩ := (HR.out.kept (HJ1.out.1.trans HRc.out.kept)).at_ 0 hlt2
          have hy1 := HLO.out j hlt2
          have j0 : (j : Int) < (im.length : Int) := by omega
          by_cases hy : 0 ≤ im.getD j 0
          · have HMK := Lib.hid (fun W => make (im.getD j 0) hy (by omega) W)
            have HST := Lib.hid (fun (W : World) (k : Kept wr W) => HRc.out.yes k hlt2 hy)
            have HCE := Lib.hid (fun (W : World) (k : Kept wr W) => show ∃ v, W.cell? ⟨W2.heap.size, j * 15 + 10, none⟩ = some v ∧ W.frozen? ⟨W2.heap.size, j * 15 + 10, none⟩ = false by
              obtain ⟨cs, hb, hl, _⟩ := HRc.out.blk
              exact (hb.kept k).has (by rw [hl]; omega))
            generalize im.getD j 0 = y at *
            have W32 : IntKind.u32.wrap y = y := by rw [IntKind.wrap_u32]; omega
            go_wp2_with fail
            refine (HMK.out _).mono ?_
            rintro e W5 ⟨rfl, k5⟩
            have HST2 := Lib.hid (HST.out _ k5)
            obtain ⟨v, p1, p2⟩ := HCE.out _ k5
            clear k5 HST HCE HMK
            go_wp2_with fail
            go_roundw
            case rel => exact ⟨j + 1, by omega, by go_num, HST2.out⟩
            case measure => simp [intOf]; omega
          · have HST := Lib.hid (HRc.out.no hy)
            generalize im.getD j 0 = y at *
            go_wp2_with fail
            go_roundw
            case rel => exact ⟨j + 1, by omega, by go_num, HST.out⟩
            case measure => simp [intOf]; omega
        · obtain rfl : j = im.length := by omega
          have HK6 := Lib.hid (HJ1.out.1.trans HRc.out.kept)
          obtain ⟨cs, hb, l64, e15, e11, e62⟩ := HJ1.out.2
          have hb6 := hb.kept HRc.out.kept
          obtain ⟨v4, p1, p2⟩ := hb6.has (i := 35) (by omega)
          have hone : One (wr.setCell ⟨wo.heap.size, 35, none⟩ (.slice (some ⟨W2.heap.size, 0, none⟩) im.length im.length)) wo.heap.size W2.heap.size ⟨ek, wk, did, im, ia, ic⟩ := by
            obtain ⟨rc, rb, rl, r1, r2⟩ := HRc.out.blk
            refine ⟨⟨_, hb6.set 35 _, by rw [List.length_set]; exact l64, ?_, ?_, ?_, by rw [List.getElem?_set_self (by omega)]⟩, rc, rb.far (rb.apart hb6 (by decide)) _, rl, r1, fun k hk => by rw [r2 k hk, if_pos hk]⟩
            · rw [List.getElem?_set_ne (by omega)]; exact e15
            · rw [List.getElem?_set_ne (by omega)]; exact e11
            · rw [List.getElem?_set_ne (by omega)]; exact e62
          have HONE := Lib.hid hone
          have HK7 := Lib.hid (HK6.out.setCell (p := ⟨wo.heap.size, 35, none⟩) (Nat.le_refl _) (.slice (some ⟨W2.heap.size, 0, none⟩) im.length im.length))
          clear hb hb6 l64 e15 e11 e62 hone HRc x3
          go_upto_region 18 with fail
          generalize wr.setCell ⟨wo.heap.size, 35, none⟩ (.slice (some ⟨W2.heap.size, 0, none⟩) im.length im.length) = W6 at *
          clear p1 p2 HK6
          obtain ⟨r1, pr1, pl1, _⟩ := HB.out.rp
          obtain ⟨v5, p3, p4⟩ := (pr1.kept HK7.out).has (i := i) (by omega)
          clear pr1 pl1
          have HJF := Lib.hid (fun W => jsFile W wo.heap.size 10)
          go_upto_region 19 with fail
          go_wp2_with fail
          refine (HJF.out _).mono ?_
          rintro e W8 ⟨A, rfl, hA, k8⟩
          have HNX := Lib.hid (HB.out.step HK7.out (by rw [HFI.out]; exact HONE.out) (Nat.le_refl _) hlt k8 hA)
          obtain ⟨c7, q7, l7, _⟩ := HB.out.lf
          have q8 := ((q7.kept HK7.out).far (p := ⟨w.heap.size, i, none⟩) (by show w.heap.size + 1 ≠ w.heap.size; omega) (.pointer (some ⟨wo.heap.size, 0, none⟩))).kept k8
          have hth : W8.there (w.heap.size + 1) (i * 24) A.size := q8.there (by rw [hA.1, l7]; have := Nat.mul_le_mul_right 24 (show i + 1 ≤ n by omega); omega)
          have hsA : (Try.prog.info? 123).map (·.size) = some A.size := by rw [hA.1]; exact sizeF
          have hoA : A.all (·.oneCell') = true := hA.2.2
          clear q7 l7 q8 k8 hA HJF p3 p4 HONE HK7 HJ1 HFI
          go_wp2_with (with_reducible refine wpList_store_mid rfl 123 (.tmp 95) (.tmp 94) rfl (w.heap.size + 1) (i * 24) A rfl rfl hth hsA hoA ?_)
          go_roundw
          case rel => exact ⟨i + 1, _, _, by omega, by go_num, HNX.out⟩
          case measure => simp [intOf]; omega
    · obtain rfl : n = i := by omega
      go_wp2_with fail
      go_ret2
      exact ⟨rfl, J, RB, HB.out⟩
end Go.Proofs.Ytbdchplgefgkjaa.wm
