/-
  The walk of FnCSSFilesInJSOrderIsPostorderDFS over this seat's program.
  Conditions: the files are readable.
-/
import Derived.Test.YtkogmgonceneeaaCn
import Derived.Test.YtkogmgonceneeaaCg2
import Derived.Test.YtkogmgonceneeaaCv3
import Derived.Test.YtkogmgonceneeaaCf3
import Derived.Test.YtkogmgonceneeaaEqb27
namespace Go.Proofs.Ytkogmgonceneeaa.css
open Go.ChangeShapes Go.WideShapes Go.ChangeAt Go.RowKit
open kit dfs

def LawTrue (w : World) (e : Ending) (w' : World) : Prop := e = .returned (.bool true) ∧ Kept w w'
theorem tot_at (F : Ct) {i n : Nat} (h : i < n) : dsum F i (np F i) ≤ tot F n := by
  induction n with
  | zero => omega
  | succ n ih =>
    simp only [tot]
    by_cases e : i = n
    · subst e; omega
    · have := ih (by omega); omega
theorem flat_one (o : List Nat) : o.flatMap (fun x : Nat => [Value.int .u32 (x : Int)]) = o.map (Value.int .u32 ∘ fun x : Nat => (x : Int)) := by
  induction o with
  | nil => rfl
  | cons x r ih => rw [List.flatMap_cons, List.map_cons, ih]; rfl
theorem row_of {w : World} {base : Nat} {a : Option Addr} {n c : Nat} {o : List Nat} (h : Wk w base 23 1 (fun x : Nat => [.int .u32 (x : Int)]) (.slice a n c) o) : n = o.length ∧ Row w a n c ((o.map fun x : Nat => (x : Int)).map (Value.int .u32)) := by
  obtain ⟨⟨a2, c2, e⟩, h2⟩ := h
  injection e with _ e2 _
  subst e2
  refine ⟨rfl, ?_⟩
  have h3 : o.flatMap (fun x : Nat => [Value.int .u32 (x : Int)]) = (o.map fun x : Nat => (x : Int)).map (Value.int .u32) := by
    rw [List.map_map]
    exact flat_one o
  rw [← h3]
  exact Row.of_own h2
set_option maxRecDepth 100000 in
set_option maxHeartbeats 16000000 in
theorem law (w : World) (a : Option Addr) (n c e : Nat) (F : Ct) (h : FilesC w a n F) (hm : n ≤ 9223372036854775807) (he : e ≤ 4294967295) :
    Calls Try.prog 3 #[.slice a n c, .int .u32 (e : Int)] w (LawTrue w) := by
  have HF0 := Lib.hid h
  clear h
  go_enter Try.func3, Try.ntmps3
  go_wp2_with fail
  refine (bytes w a n c F e HF0.out hm).mono ?_
  rintro e9 w1 ⟨⟨b0, rfl, hb0⟩, k1⟩
  have HK1 := Lib.hid k1
  have HF1 := Lib.hid (HF0.out.kept k1)
  clear k1
  cases b0
  · clear hb0
    go_wp2_with fail
    go_ret
    exact ⟨rfl, HK1.out⟩
  have hn1 := (hb0 rfl).1
  have HL1 := Lib.hid (hb0 rfl).2
  clear hb0
  go_wp2_with fail
  refine (size w1 a n c F HF1.out hn1 HL1.out).mono ?_
  rintro e9 w' ⟨⟨sz, rfl, hsz⟩, rfl⟩
  by_cases hs : sz ≤ 1048576
  case neg =>
    clear hsz
    go_wp2_with fail
    go_ret
    exact ⟨rfl, HK1.out⟩
  obtain ⟨hn, hl, htot⟩ := hsz hs
  have HL := Lib.hid hl
  have HTOT := Lib.hid htot
  clear hsz hl htot HL1
  go_wp2_with fail
  refine (valid6 w1 a n c e F HF1.out hn HL.out he).mono ?_
  rintro e9 w2 ⟨⟨b0, rfl, hb0⟩, rfl⟩
  cases b0
  · clear hb0
    go_wp2_with fail
    go_ret
    exact ⟨rfl, HK1.out⟩
  have hen := (hb0 rfl).1
  have HOk := Lib.hid (hb0 rfl).2
  have HFit : Hid (Fits n F) := Lib.hid ⟨HF1.out.1, hn, fun f hf => (HL.out f hf).1, fun f hf p hp => (HL.out f hf).2 p hp, fun f hf p hp x hx hv => (HOk.out f hf).2 p hp x hx hv, fun f hf hc => (HOk.out f hf).1 hc⟩
  have H32 : Hid (∀ v, v < n → cssOf F v ≤ 4294967295) := Lib.hid (fun v hv => by obtain ⟨_, _, _, _, _, _, _, _, _, h, _⟩ := HF1.out.at_ hv; exact h)
  clear hb0
  go_wp2_with fail
  refine (clone w1 a n c F HF1.out hn HL.out).mono ?_
  rintro e9 wC ⟨⟨a5, c5, rfl, hFC⟩, kC⟩
  have HFC := Lib.hid hFC
  have HKC := Lib.hid (HK1.out.trans kC)
  clear hFC kC HF0 HF1 HK1 HOk
  go_wp2_with fail
  refine (model wC a5 n c5 e F HFC.out HFit.out hen).mono ?_
  rintro e9 wD ⟨s1, t1, rfl, hR1, hW1, kD⟩
  have HR1 := Lib.hid hR1
  have HW1 := Lib.hid hW1
  have HKD := Lib.hid (HKC.out.trans kD)
  have HFD := Lib.hid (HFC.out.kept kD)
  obtain ⟨⟨a6, c6, et⟩, _⟩ := hW1
  clear hR1 kD HFC HKC
  subst et
  go_wp2_with fail
  refine (build wD a5 n c5 F HFD.out HFit.out (fun i hi => Nat.le_trans (tot_at F hi) HTOT.out)).mono ?_
  rintro e9 wE ⟨rfl, G, hB⟩
  have HB := Lib.hid hB
  have HKE := Lib.hid (HKD.out.trans hB.kept)
  have HWE := Lib.hid (HW1.out.kept hB.kept)
  clear hB HW1 HKD HFD
  obtain ⟨OS, hOS, _⟩ : ∃ OS, Try.prog.built 89 [] = some OS ∧ OS.size = OS.size := by
    obtain ⟨OS, h1, h2⟩ := Option.map_eq_some_iff.1 (show (Try.prog.built 89 []).map (fun _ => true) = some true by kernel_rfl)
    exact ⟨OS, h1, rfl⟩
  have HOS := Lib.hid hOS
  clear hOS
  go_wp2_with (with_reducible refine wp_build0 rfl 89 rfl OS HOS.out ?_)
  have HKO := Lib.hid ((Kept.refl wE).alloc (.cells OS 89))
  generalize hWO : wE.alloc (.cells OS 89) = wO at *
  generalize wE.heap.size = ob at *
  clear hWO
  refine (newCtx wO wD.heap.size n ob).mono ?_
  rintro e9 wF ⟨cb, cs, rfl, hb, hc10, _, _, kF⟩
  have HMm := Lib.hid (HB.out.mem (HKO.out.trans kF) hb hc10)
  have HKF := Lib.hid ((HKE.out.trans HKO.out).trans kF)
  have HWF := Lib.hid ((HWE.out.kept HKO.out).kept kF)
  clear hb hc10 kF HB HKO HKE HWE
  go_wp2_with fail
  refine (zzfind wF cb wD.heap.size n e G F HMm.out HFit.out H32.out hen).mono ?_
  rintro e9 wG ⟨s2, t2, rfl, hR2, hW2, kG⟩
  have hs : s2 = s1 := hR2.det HR1.out
  subst hs
  have HKG := Lib.hid (HKF.out.trans kG)
  have hW3 := hW2
  obtain ⟨⟨a7, c7, et⟩, _⟩ := hW3
  subst et
  have hr1 := row_of (HWF.out.kept kG)
  have hr2 := row_of hW2
  have hlen : s2.o.length ≤ 131072 := by
    have h1 := run_cnt (n := n) (fun v hv t ht => tgts_in HFit.out hv ht) hR2 (fun x hx => by rw [List.mem_singleton.1 hx]; exact hen)
    have h2 := cnt_le s2.d n
    have h3 : (⟨fun _ => false, []⟩ : St).o.length = 0 := rfl
    omega
  have HE := Lib.hid (eqb27.run a7 s2.o.length c7 _ a6 s2.o.length c6 _ wG hr2.2 hr1.2 (by omega) (by omega))
  clear hR2 hW2 kG hr1 hr2 hlen HMm HKF HWF
  go_wp2_with fail
  refine HE.out.mono ?_
  rintro e9 wH ⟨rfl, kH⟩
  rw [eqb27.sameB_self]
  have HKH := Lib.hid (HKG.out.trans kH)
  clear kH HE
  go_wp2_with fail
  go_ret
  exact ⟨rfl, HKH.out⟩
end Go.Proofs.Ytkogmgonceneeaa.css
