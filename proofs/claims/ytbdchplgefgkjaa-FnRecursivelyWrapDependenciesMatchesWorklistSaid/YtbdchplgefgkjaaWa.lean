/-
  The recursion of recursivelyWrapDependencies joined, over this seat's program; the files that were built as the recursion wants them.
  Conditions: the files lie in memory as Mem says.
-/
import Derived.Test.YtbdchplgefgkjaaWr
import Derived.Test.YtbdchplgefgkjaaWg
namespace Go.Proofs.Ytbdchplgefgkjaa.wm
open Go.ChangeShapes Go.WideShapes Go.ChangeAt Go.RowKit
open kit wrp

theorem wrapAll (cb LB n : Nat) (J RB K : Nat → Nat) (T : Nat → Nat → Option Nat) (ek : Nat → Int) (N : Nat) : ∀ (w : World) (v : Nat) (d : Nat → Bool) (z : Nat → Int), open_ n d ≤ N → Mem w cb LB n J RB K T ek d z → v < n →
    Calls Try.prog 11 #[.pointer (some ⟨cb, 0, none⟩), .int .u32 (v : Int)] w (Wrapped w cb LB n J RB K T ek v d z) := by
  induction N with
  | zero =>
    intro w v d z hN h hv
    cases hd : d v
    · exact absurd (open_lt (d := d) (d2 := upd d v true) (fun x hx => by
        by_cases e : x = v
        · rw [e]; exact upd_same _ _ _
        · rw [upd_ne _ _ e]; exact hx) hv hd (upd_same _ _ _)) (by omega)
    · exact already w cb LB n J RB K T ek v d z h hv hd
  | succ N ih =>
    intro w v d z hN h hv
    cases hd : d v
    · by_cases h0 : v = 0
      · subst h0
        exact runtime w cb LB n J RB K T ek d z h hv hd
      · refine wrapS w cb LB n J RB K T ek v d z h hv h0 hd (fun W d2 z2 t hm h2 ht hM => ih W t d2 z2 ?_ hM ht)
        have := open_lt hm hv hd h2
        omega
    · exact already w cb LB n J RB K T ek v d z h hv hd
theorem zzrec (cb LB n : Nat) (J RB K : Nat → Nat) (T : Nat → Nat → Option Nat) (ek : Nat → Int) (w : World) (v : Nat) (d : Nat → Bool) (z : Nat → Int) (h : Mem w cb LB n J RB K T ek d z) (hv : v < n) :
    Calls Try.prog 8 #[.pointer (some ⟨cb, 0, none⟩), .int .u32 (v : Int)] w (Wrapped w cb LB n J RB K T ek v d z) := by
  have HC := Lib.hid (wrapAll cb LB n J RB K T ek _ w v d z (Nat.le_refl _) h hv)
  clear h
  go_enter Try.func8, Try.ntmps8
  go_wp2_with fail
  refine HC.out.mono ?_
  rintro e w2 ⟨rfl, r⟩
  have HR := Lib.hid r
  clear r
  go_wp2_with fail
  go_end0
  exact ⟨rfl, HR.out⟩

def ekF (fs : List WF) (i : Nat) : Int := (fs.getD i default).ek
def diF (fs : List WF) (i : Nat) : Bool := (fs.getD i default).did
def wrF (fs : List WF) (i : Nat) : Int := (fs.getD i default).wr
theorem Bd.mem {w0 wr W : World} {n cb : Nat} {J RB : Nat → Nat} {fs : List WF} {cs : List Value} {a : Option Addr} (h : Bd w0 wr n n J RB fs) (hf : Fit n fs) (hF : Fs w0 a n fs) (k : Kept wr W) (hb : Blk W cb 190 cs) (hc : cs[10]? = some (.slice (some ⟨w0.heap.size + 1, 0, none⟩) n n)) :
    Mem W cb (w0.heap.size + 1) n J RB (Kf fs) (Tf fs) (ekF fs) (diF fs) (wrF fs) := by
  obtain ⟨c2, p2, l2, e2⟩ := h.lf
  refine ⟨⟨cs, hb, hc⟩, ⟨c2, p2.kept k, e2⟩, fun i hi => ?_, fun i hi => ?_, h.apart, hf.top, hf.len, fun i hi => ?_, fun i j t hi hj ht => ?_⟩
  · obtain ⟨_, _, ⟨c1, h1, r⟩, _⟩ := h.one i hi
    exact ⟨c1, h1.kept k, r⟩
  · obtain ⟨_, _, _, c1, h1, r⟩ := h.one i hi
    exact ⟨c1, h1.kept k, r⟩
  · exact (hF.2.2 _ (hF.mem hi)).2.1
  · have := hf.low i hi j hj
    unfold Tf tg at ht
    split at ht
    · have := Option.some.inj ht
      omega
    · cases ht
end Go.Proofs.Ytbdchplgefgkjaa.wm
