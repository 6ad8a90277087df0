/-
  FnImportConditionsEqualIgnoresWhitespaceAndIsSymmetric's walk over this seat's program, behind its bounds.
  Conditions: the lists are readable.
-/
import Derived.Test.YtdnpdfiiajjcnaaIf
import Derived.Test.YtdnpdfiiajjcnaaIl
import Derived.Test.YtdnpdfiiajjcnaaIn
import Derived.Test.YtdnpdfiiajjcnaaIz
namespace Go.Proofs.Ytdnpdfiiajjcnaa.ic
open Go.ChangeShapes Go.WideShapes Go.ChangeAt Go.RowKit
open kit

def LawTrue (w : World) (e : Ending) (w' : World) : Prop := e = .returned (.bool true) ∧ Kept w w'
set_option maxRecDepth 100000 in
set_option maxHeartbeats 8000000 in
theorem law (w : World) (a1 : Option Addr) (n1 c1 : Nat) (F : Ct) (a2 : Option Addr) (n2 c2 : Nat) (G : Ct) (h1 : IcsC w (.slice a1 n1 c1) F) (hF : F.length = n1) (h2 : IcsC w (.slice a2 n2 c2) G) (hG : G.length = n2) (m1 : n1 ≤ 9223372036854775807) (m2 : n2 ≤ 9223372036854775807) :
    Calls Try.prog 3 #[.slice a1 n1 c1, .slice a2 n2 c2] w (LawTrue w) := by
  have H1 := Lib.hid h1
  have H2 := Lib.hid h2
  obtain rfl := hF
  obtain rfl := hG
  clear h1 h2
  go_enter Try.func3, Try.ntmps3
  go_wp2_with fail
  refine (zz w a1 F.length c1 F a2 G.length c2 G H1.out rfl H2.out rfl m1 m2).mono ?_
  rintro e w1 ⟨⟨b0, rfl, hb0⟩, rfl⟩
  have HB := Lib.hid hb0
  clear hb0
  cases b0
  · go_wp2_with fail
    go_ret
    exact ⟨rfl, Kept.refl _⟩
  obtain ⟨hn1, hn2, hl1, hl2⟩ := HB.out (by first | rfl | trivial)
  have HL1 := Lib.hid hl1
  have HL2 := Lib.hid hl2
  clear HB hl1 hl2
  go_wp2_with fail
  refine (icwBytes w a1 _ c1 F H1.out rfl hn1 HL1.out).mono ?_
  rintro e w1 ⟨⟨y1, rfl⟩, rfl⟩
  go_wp2_with fail
  · go_ret
    exact ⟨rfl, Kept.refl _⟩
  refine (icwBytes w a2 _ c2 G H2.out rfl hn2 HL2.out).mono ?_
  rintro e w1 ⟨⟨y2, rfl⟩, rfl⟩
  go_wp2_with fail
  · go_ret
    exact ⟨rfl, Kept.refl _⟩
  refine (cloneI w a1 _ c1 F H1.out rfl hn1 HL1.out).mono ?_
  rintro e wA ⟨⟨vA, rfl, hA⟩, kA⟩
  obtain ⟨aA, cA, rfl, _, _, _⟩ := Sl.len hA
  have HA := Lib.hid hA
  have KA := Lib.hid kA
  clear hA kA
  go_wp2_with fail
  refine (cloneI wA a2 _ c2 G (H2.out.kept KA.out) rfl hn2 HL2.out).mono ?_
  rintro e wB ⟨⟨vB, rfl, hB⟩, kB⟩
  obtain ⟨aB, cB, rfl, _, _, _⟩ := Sl.len hB
  have HB := Lib.hid hB
  have HA2 := Lib.hid (HA.out.kept kB)
  have KB := Lib.hid (KA.out.trans kB)
  clear hB kB HA KA H1 H2
  go_wp2_with fail
  refine (build wB false aA _ cA F HA2.out rfl hn1 HL1.out).mono ?_
  rintro e w3 ⟨⟨pa, rfl, hpa⟩, k3⟩
  have PA := Lib.hid hpa
  have HA3 := Lib.hid (HA2.out.kept k3)
  have HB3 := Lib.hid (HB.out.kept k3)
  have K3 := Lib.hid (KB.out.trans k3)
  clear hpa k3 HA2 HB KB
  go_wp2_with fail
  refine (build w3 false aB _ cB G HB3.out rfl hn2 HL2.out).mono ?_
  rintro e w4 ⟨⟨pb, rfl, hpb⟩, k4⟩
  have PB := Lib.hid hpb
  have PA4 := Lib.hid (PA.out.kept k4)
  have HA4 := Lib.hid (HA3.out.kept k4)
  have HB4 := Lib.hid (HB3.out.kept k4)
  have K4 := Lib.hid (K3.out.trans k4)
  clear hpb k4 HA3 HB3 K3 PA
  go_wp2_with fail
  refine (build w4 true aA _ cA F HA4.out rfl hn1 HL1.out).mono ?_
  rintro e w5 ⟨⟨wa, rfl, hwa⟩, k5⟩
  have WA := Lib.hid hwa
  have PA5 := Lib.hid (PA4.out.kept k5)
  have PB5 := Lib.hid (PB.out.kept k5)
  have HB5 := Lib.hid (HB4.out.kept k5)
  have K5 := Lib.hid (K4.out.trans k5)
  clear hwa k5 HA4 HB4 K4 PA4 PB
  go_wp2_with fail
  refine (build w5 true aB _ cB G HB5.out rfl hn2 HL2.out).mono ?_
  rintro e w6 ⟨⟨wb, rfl, hwb⟩, k6⟩
  have WB := Lib.hid hwb
  have WA6 := Lib.hid (WA.out.kept k6)
  have PA6 := Lib.hid (PA5.out.kept k6)
  have PB6 := Lib.hid (PB5.out.kept k6)
  have K6 := Lib.hid (K5.out.trans k6)
  clear hwb k6 HB5 K5 PA5 PB5 WA
  go_wp2_with fail
  refine (zzEq pa pb F G w6 PA6.out PB6.out hn1 HL1.out).mono ?_
  rintro e w7 ⟨rfl, k7⟩
  have K7 := Lib.hid (K6.out.trans k7)
  have PA_7 := Lib.hid (PA6.out.kept k7)
  have PB_7 := Lib.hid (PB6.out.kept k7)
  have WA_7 := Lib.hid (WA6.out.kept k7)
  have WB_7 := Lib.hid (WB.out.kept k7)
  clear k7 PA6 PB6 WA6 WB K6
  go_wp2_with fail
  refine (zzEq wa wb F G w7 WA_7.out WB_7.out hn1 HL1.out).mono ?_
  rintro e w8 ⟨rfl, k8⟩
  have K8 := Lib.hid (K7.out.trans k8)
  have PA_8 := Lib.hid (PA_7.out.kept k8)
  have PB_8 := Lib.hid (PB_7.out.kept k8)
  have WA_8 := Lib.hid (WA_7.out.kept k8)
  have WB_8 := Lib.hid (WB_7.out.kept k8)
  clear k8 PA_7 PB_7 WA_7 WB_7 K7
  go_wp2_with fail
  refine (zzEq wb wa G F w8 WB_8.out WA_8.out hn2 HL2.out).mono ?_
  rintro e w9 ⟨he, k9⟩
  rw [same_comm G F] at he
  subst he
  have K9 := Lib.hid (K8.out.trans k9)
  have PA_9 := Lib.hid (PA_8.out.kept k9)
  have PB_9 := Lib.hid (PB_8.out.kept k9)
  have WA_9 := Lib.hid (WA_8.out.kept k9)
  have WB_9 := Lib.hid (WB_8.out.kept k9)
  clear k9 PA_8 PB_8 WA_8 WB_8 K8
  go_wp2_with fail
  refine (zzEq wa pa F F w9 WA_9.out PA_9.out hn1 HL1.out).mono ?_
  rintro e w10 ⟨he, k10⟩
  rw [same_self] at he
  subst he
  have K10 := Lib.hid (K9.out.trans k10)
  have PA_10 := Lib.hid (PA_9.out.kept k10)
  have PB_10 := Lib.hid (PB_9.out.kept k10)
  have WA_10 := Lib.hid (WA_9.out.kept k10)
  have WB_10 := Lib.hid (WB_9.out.kept k10)
  clear k10 PA_9 PB_9 WA_9 WB_9 K9
  go_wp2_with fail
  refine (zzEq pa wa F F w10 PA_10.out WA_10.out hn1 HL1.out).mono ?_
  rintro e w11 ⟨he, k11⟩
  rw [same_self] at he
  subst he
  have K11 := Lib.hid (K10.out.trans k11)
  have PA_11 := Lib.hid (PA_10.out.kept k11)
  have PB_11 := Lib.hid (PB_10.out.kept k11)
  have WA_11 := Lib.hid (WA_10.out.kept k11)
  have WB_11 := Lib.hid (WB_10.out.kept k11)
  clear k11 PA_10 PB_10 WA_10 WB_10 K10
  clear HL1 HL2 PA_11 PB_11 WA_11 WB_11
  generalize same F G = q at *
  cases q
  all_goals go_wp2_with fail
  all_goals go_ret
  all_goals exact ⟨rfl, K11.out⟩
end Go.Proofs.Ytdnpdfiiajjcnaa.ic
