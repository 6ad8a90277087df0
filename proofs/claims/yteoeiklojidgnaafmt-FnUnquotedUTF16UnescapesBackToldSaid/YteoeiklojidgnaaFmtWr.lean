/-
  The law's runner of printUnquotedUTF16 over this seat's program: a new printer, the call, its output.
  Conditions: at most 2^20 bytes and units.
-/
import Derived.Test.YteoeiklojidgnaaFmtWm
namespace Go.Proofs.YteoeiklojidgnaaFmt.uw
open Go.ChangeShapes Go.WideShapes Go.ChangeAt Go.RowKit
open kit pr uq

section
variable (w0 w : World) (g c N tc tb tof : Nat) (cs : List Value) (A ta : Option Addr) (U L0 : List Int) (qt fl lim : Int) (asc ni : Bool)
theorem zzunq (hp : Pr w g cs A c L0) (hk : Kept w0 w) (hg : w0.heap.size ≤ g) (hA : ∀ k, A.map (·.block) = some k → w0.heap.size ≤ k)
    (hasc : cs[31]? = some (.bool asc)) (hfe : cs[24]? = some (.int .u64 (featOf asc ni))) (hlim : cs[26]? = some (.int .i64 lim)) (h69 : cs[69]? = some (.int .i64 0)) (h70 : cs[70]? = some (.int .i64 0)) (hl2 : lim ≤ 9223372036854775807) (hl3 : -9223372036854775808 ≤ lim)
    (hN : U.length = N) (htx : Tx w0 tb tof U) (hta : 0 < N → ta = some ⟨tb, tof, none⟩) (hL : L0.length ≤ 1048576) (hU : U.length ≤ 1048576) :
    Calls Tryf.prog 11 #[.pointer (some ⟨g, 0, none⟩), .slice ta N tc, .int .i32 qt, .int .u8 fl] w (Wrote w0 g U L0) := by
  have HC := Lib.hid (unq w0 w g c N tc tb tof cs A ta U L0 qt fl lim asc ni hp hk hg hA hasc hfe hlim h69 h70 hl2 hl3 hN htx hta hL hU)
  clear hp hk hg hA hasc hfe hlim h69 h70 hl2 hl3 hN htx hta hL hU
  go_enter Tryf.func11, Tryf.ntmps11
  go_wp2_with fail
  refine HC.out.mono ?_
  rintro e w2 ⟨rfl, hr⟩
  have HR := Lib.hid hr
  clear hr
  go_wp2
  go_end0
  exact ⟨rfl, HR.out⟩

/-- what the runner leaves: the prefix, and behind it what denotes the units -/
def Ran (w0 : World) (U L0 : List Int) (e : Ending) (w' : World) : Prop :=
  ∃ T A c M, e = .returned (.slice A M.length c) ∧ M = L0 ++ bytesT T ∧ At U U.length T ∧ OwnB w' A c M ∧ Kept w0 w' ∧ ∀ k, A.map (·.block) = some k → w0.heap.size ≤ k
theorem run6 (hown : w.ownsRow 0 5 1 (.slice A L0.length c) L0.length (L0.map (Value.int .u8))) (hk : Kept w0 w) (hA : ∀ k, A.map (·.block) = some k → w0.heap.size ≤ k) (hl2 : lim ≤ 9223372036854775807) (hl3 : -9223372036854775808 ≤ lim)
    (hN : U.length = N) (htx : Tx w0 tb tof U) (hta : 0 < N → ta = some ⟨tb, tof, none⟩) (hL : L0.length ≤ 1048576) (hU : U.length ≤ 1048576) :
    Calls Tryf.prog 6 #[.slice A L0.length c, .slice ta N tc, .int .i32 qt, .int .u8 fl, .bool asc, .bool ni, .int .i64 lim] w (Ran w0 U L0) := by
  have HNEW := Lib.hid (newP w A c L0 asc (featOf asc ni) lim hown)
  have HK := Lib.hid hk
  have HA := Lib.hid hA
  have HTX := Lib.hid htx
  have HNN := Lib.hid hN
  have HTA := Lib.hid hta
  have HLL := Lib.hid hL
  have HU := Lib.hid hU
  clear hown hk hA hN htx hta hL hU
  generalize hn : L0.length = n at *
  cases asc <;> cases ni
  all_goals
    go_enter Tryf.func6, Tryf.ntmps6
    go_wp2_with fail
    refine HNEW.out.mono ?_
    rintro e w2 ⟨rfl, cs, hnew⟩
    have HW := Lib.hid hnew
    clear hnew
    go_wp2_with fail
    refine (zzunq w0 w2 w.heap.size c N tc tb tof cs A ta U L0 qt fl lim _ _ HW.out.pr (HK.out.trans HW.out.kept) HK.out.size HA.out HW.out.asc HW.out.feat HW.out.lim HW.out.c69 HW.out.c70 hl2 hl3 HNN.out HTX.out HTA.out (by rw [hn]; exact HLL.out) HU.out).mono ?_
    rintro e w3 ⟨rfl, T, A2, c2, cs2, hat, hp, hk2, hlo⟩
    have HAT := Lib.hid hat
    have HP := Lib.hid hp
    have HK2 := Lib.hid hk2
    have HLO := Lib.hid hlo
    clear hat hp hk2 hlo
    go_wp2_with fail
    refine (zzjs w3 w.heap.size cs2 A2 c2 _ HP.out).mono ?_
    rintro e w4 ⟨rfl, rfl⟩
    have HF : Hid (Ran w0 U L0 (.returned (.slice A2 (L0 ++ bytesT T).length c2)) w3) := Lib.hid ⟨T, A2, c2, _, rfl, rfl, HAT.out, HP.out.own, HK2.out, HLO.out⟩
    clear HAT HP HK2 HLO HW
    generalize (L0 ++ bytesT T).length = m at *
    go_wp2_with fail
    go_ret
    exact HF.out
end
end Go.Proofs.YteoeiklojidgnaaFmt.uw
