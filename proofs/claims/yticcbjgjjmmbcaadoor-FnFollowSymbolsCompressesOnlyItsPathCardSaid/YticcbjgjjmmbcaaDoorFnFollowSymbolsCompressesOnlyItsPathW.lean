/-
  The walk of FnFollowSymbolsCompressesOnlyItsPath: One FollowSymbols call relinks every linked symbol on its own chain straight to the chain's end, answers that end, and leaves all other links as they were.
  Conditions: none beyond those of the given statement Rows.FnFollowSymbolsCompressesOnlyItsPathSaid.
-/
import Derived.Test.YticcbjgjjmmbcaaDoorRows
import Derived.WalkKit
import Derived.ProofKit
import Derived.OpenShut
import Derived.ShutString
import Derived.ChangeOld
import Derived.Below
import Derived.Test.YticcbjgjjmmbcaaDoorP236
import Derived.Test.YticcbjgjjmmbcaaDoorClone16
import Derived.Test.YticcbjgjjmmbcaaDoorCloneI32
namespace Go.Proofs.YticcbjgjjmmbcaaDoor.fnFollowSymbolsCompressesOnlyItsPath
open Go.ChangeShapes Go.WideShapes Go.ChangeAt Go.RowKit
open Go.ChangeMaps (open_string shut_string)
set_option linter.unusedVariables false


/-- WHAT THE WALK IS TOLD OF A SLICE OF INTEGERS THAT CAME IN: it is nil; or it leads to a row of 'cap' cells, the numbers 'zs' (the first 'len' are its elements, the rest its spare room), each fitting its kind. -/
def IsRow (k : IntKind) (w : World) (a : Option Addr) (len cap : Nat) (zs : List Int) : Prop :=
  (a = none ∧ len = 0 ∧ cap = 0 ∧ zs = []) ∨
  ∃ x, a = some x ∧ len ≤ cap ∧ cap ≤ maxLen ∧ zs.length = cap ∧ (∀ i, i < zs.length → w.cell? (x.add i) = some (.int k (zs.getD i 0))) ∧ ∀ n ∈ zs, (Lit.int k n).wf = true

open kit chain arena cut arr p236

theorem bytes25_ok (a0 : Option Addr) (len0 cap0 : Nat) (a1 : Option Addr) (len1 cap1 : Nat) (a2 : Int) (w : World) (h : len0 + len1 ≤ 1048576) :
    Calls Tryd.prog 25 #[.slice a0 len0 cap0, .slice a1 len1 cap1, .int .u32 a2] w fun e w' => e = .returned (.bool true) ∧ w = w' := by
  go_enter Tryd.func25, Tryd.ntmps25
  go_wp2
  go_ret
  exact ⟨rfl, rfl⟩
theorem bytes25_no (a0 : Option Addr) (len0 cap0 : Nat) (a1 : Option Addr) (len1 cap1 : Nat) (a2 : Int) (w : World) (h : ¬ len0 + len1 ≤ 1048576) (m0 : len0 ≤ 9223372036854775807) (m1 : len1 ≤ 9223372036854775807) :
    Calls Tryd.prog 25 #[.slice a0 len0 cap0, .slice a1 len1 cap1, .int .u32 a2] w fun e w' => e = .returned (.bool false) ∧ w = w' := by
  by_cases h0 : 1048576 < len0
  · go_enter Tryd.func25, Tryd.ntmps25
    go_wp2
    go_ret
    exact ⟨rfl, rfl⟩
  by_cases h1 : 1048576 < len1
  · go_enter Tryd.func25, Tryd.ntmps25
    go_wp2
    go_ret
    exact ⟨rfl, rfl⟩
  · go_enter Tryd.func25, Tryd.ntmps25
    go_wp2
    go_ret
    exact ⟨rfl, rfl⟩

theorem fieldLink (nm : ByteArray) (x y us fl kd : Int) (W : World) : (Instr.field 57 (.agg #[.pointer none, .string nm, .int .u32 x, .int .u32 y, .int .u32 us, .int .u32 0, .int .u32 0, .int .u16 fl, .int .u8 kd, .int .u8 0]) 2).run Tryd.prog W = .ok (.agg #[.int .u32 x, .int .u32 y]) W := by kernel_rfl

set_option maxRecDepth 100000 in
set_option maxHeartbeats 16000000 in
theorem main (a0 : Option Addr) (m c0 : Nat) (zs : List Int) (a1 : Option Addr) (n c1 : Nat) (ls : List Int) (a2 : Int) (w : World) (h0 : Row w a0 m c0 (zs.map (Value.int .u16))) (h1 : Row w a1 n c1 (ls.map (Value.int .i32)))
    (hz : ∀ j, j < m → 0 ≤ zs.getD j 0 ∧ zs.getD j 0 ≤ 65535) (hl : ∀ j, j < n → -2147483648 ≤ ls.getD j 0 ∧ ls.getD j 0 ≤ 2147483647) (hm : m ≤ 4096) (hn0 : 1 ≤ n) (hn : n ≤ 4096) (s0 : 0 ≤ a2) (s1 : a2 ≤ 4294967295) (hI : Inv w) :
    Calls Tryd.prog 5 #[.slice a0 m c0, .slice a1 n c1, .int .u32 a2] w fun e w' => e = .returned (.bool true) ∧ Below w.heap.size w w' := by
  obtain ⟨qi, hqi⟩ : ∃ i : Nat, a2 % (n : Int) = (i : Int) := ⟨(a2 % (n : Int)).toNat, by have := Int.emod_nonneg a2 (show (n : Int) ≠ 0 by omega); omega⟩
  have hqn : qi < n := by have := Int.emod_lt_of_pos a2 (show (0 : Int) < (n : Int) by omega); omega
  have hz0 : ((n : Int) == 0) = false := by simp; omega
  have HBY := Lib.hid (bytes25_ok a0 m c0 a1 n c1 a2 w (by omega))
  have C0 := Lib.hid (clone16.run a0 m c0 zs w h0 (by omega))
  have H1 := Lib.hid h1
  have HZ := Lib.hid hz
  have HL := Lib.hid hl
  have HI := Lib.hid hI
  have HZL : Hid (zs.length = m) := Lib.hid (by simpa using h0.1)
  have hTl : ∀ i, i < n → tgtOf ls n i < (n : Int) := fun i _ => (tgt_lt hn0).1
  have HTL := Lib.hid hTl
  have hS : srcs zs n ≤ 4097 := srcs_le HZL.out hm
  have HS := Lib.hid hS
  clear h0 h1 hz hl hI hTl hS
  go_enter Tryd.func5, Tryd.ntmps5
  go_wp2_with fail
  refine HBY.out.mono ?_
  rintro e w' ⟨rfl, rfl⟩
  go_wp2_with fail
  refine C0.out.mono ?_
  rintro e w1 ⟨p0, rfl, o0, _, k1⟩
  have R0 := Lib.hid (Ints.of_row (Row.of_own o0))
  have K1 := Lib.hid k1
  have C1 := Lib.hid (cloneI32.run a1 n c1 ls w1 (H1.out.kept k1) (by omega))
  clear o0 k1 C0 HBY H1
  go_wp2_with fail
  refine C1.out.mono ?_
  rintro e w2 ⟨p1, rfl, o1, _, k2⟩
  have R1 := Lib.hid (Ints.of_row (Row.of_own o1))
  have K2 := Lib.hid k2
  have CT := Lib.hid (targetsC p1 n n ls w2 R1.out HL.out hn)
  clear o1 k2 C1
  go_wp2_with fail
  refine CT.out.mono ?_
  rintro e w3 ⟨rfl, hT3, k3⟩
  have T3 := Lib.hid hT3
  have K3 := Lib.hid k3
  have CR := Lib.hid (rootsC w2.heap.size n n (tgtOf ls n) w3 hT3 HTL.out hn0 hn)
  clear hT3 k3 CT
  go_wp2_with fail
  refine CR.out.mono ?_
  rintro e w4 ⟨k4, rfl | ⟨R, rfl, hR4, hch⟩⟩
  · have K4 := Lib.hid k4
    clear k4
    go_wp2_with fail
    go_ret
    exact ⟨rfl, ((K1.out.trans K2.out).trans K3.out).trans K4.out⟩
  have K4 := Lib.hid k4
  have T4 := Lib.hid (T3.out.kept k4)
  have R4 := Lib.hid hR4
  obtain ⟨d, hd⟩ := hch qi hqn
  have HD := Lib.hid hd
  obtain ⟨C, hC, hmk⟩ := makeBools n (by omega)
  have HC := Lib.hid hC
  have ht3 : w2.heap.size < w3.heap.size := T3.out.1
  have hr4 : w3.heap.size < w4.heap.size := hR4.1
  clear k4 hR4 hch hd hC CR T3
  generalize hT : tgtOf ls n = T at *
  clear hT
  go_wp2_with fail
  generalize htb : w2.heap.size = tb at *
  generalize hrb : w3.heap.size = rb at *
  generalize hob : w4.heap.size = ob at *
  have HTB := Lib.hid htb
  have HRB := Lib.hid hrb
  have HOB := Lib.hid hob
  have HO0 : Hid (Blk (w4.alloc (.cells C 4)) ob 4 (boolRow n []) ∧ Kept w4 (w4.alloc (.cells C 4))) := by
    refine Lib.hid ⟨?_, (Kept.refl _).alloc _⟩
    have e : C = (boolRow n []).toArray := by rw [← Array.toList_inj, HC.out, boolRow_nil]
    rw [e, ← hob]
    exact Blk.new _ _ _
  clear htb hrb hob hmk HC
  generalize w4.alloc (.cells C 4) = wa at *
  go_loopw [13] (fun t wr => ∃ (x e : Nat) (L : List Nat), t = .int .i64 (x : Int) ∧ Hid (FChain n T e x (R qi)) ∧ Hid (fpath T d qi = L ++ fpath T e x) ∧ Blk wr ob 4 (boolRow n L) ∧ Kept w4 wr) (fun t _ => dep n T (intOf t).toNat)
  case atStart => exact ⟨qi, d, [], rfl, HD, Lib.hid rfl, HO0.out.1, HO0.out.2⟩
  case round =>
    obtain ⟨x, e, L, rfl, HX, HP, hbl, hkp⟩ := hrel
    have hxn := HX.out.lt
    have hxi : (x : Int) < (n : Int) := by omega
    have t0 := hkp.cell (T4.out.2 x (by simpa using hxn))
    have et : ((List.range n).map T).getD x 0 = T x := by simp [hxn]
    rw [et] at t0
    clear et
    rcases e with _ | e
    · have hneg : T x < 0 := HX.out.2.1
      have HBL := Lib.hid hbl
      have HKP := Lib.hid hkp
      have HPP : Hid (fpath T d qi = L) := Lib.hid (by rw [HP.out]; simp [fpath])
      clear hbl hkp HP HX HO0
      obtain ⟨w5, hw5⟩ : ∃ w5 : World, w5 = wr := ⟨_, rfl⟩
      subst hw5
      generalize T x = tx at *
      have CC := Lib.hid (countsC p0 m m n zs w5 (((((R0.out.kept K2.out).kept K3.out).kept K4.out)).kept HKP.out) HZ.out hm hn)
      go_wp2_with fail
      refine CC.out.mono ?_
      rintro e w6 ⟨cc, rfl, hc6, k6⟩
      have K6 := Lib.hid k6
      have CF := Lib.hid (refsC w5.heap.size cc n zs w6 hc6 HS.out hn)
      have C6 := Lib.hid hc6
      clear k6 hc6 CC
      go_wp2_with fail
      refine CF.out.mono ?_
      rintro e w7 ⟨rfl, hr7, k7⟩
      have K7 := Lib.hid k7
      have R7 := Lib.hid hr7
      have T7 := Lib.hid (((T4.out.kept HKP.out).kept K6.out).kept k7)
      have CB := Lib.hid (buildC w5.heap.size cc w6.heap.size n tb n none 0 0 none 0 0 n zs [] [] T w7 (C6.out.kept k7) hr7 T7.out (Ints.empty _ _) (Ints.empty _ _) HTL.out (fun i => by simp) (fun i => by simp) HS.out hn (by omega) (by omega))
      clear k7 hr7 CF
      go_wp2_with fail
      refine CB.out.mono ?_
      rintro e w8 ⟨g, bk, rfl, hg8, hbk8, hA8, k8⟩
      have HA8 := Lib.hid hA8
      have K8 := Lib.hid k8
      have HBK := Lib.hid hbk8
      have hl8 : ∀ s, s < srcs zs n → bk s < w8.heap.size := fun s hs => hA8.lt hs
      have HL8 := Lib.hid hl8
      have hpos : 0 < w.heap.size := World.block_lt_of_cell? w _ HI.out.1
      have KW5 : Hid (Kept w w5) := Lib.hid ((((K1.out.trans K2.out).trans K3.out).trans K4.out).trans HKP.out)
      have KW8 : Hid (Kept w w8) := Lib.hid (((KW5.out.trans K6.out).trans K7.out).trans K8.out)
      have hw57 : w5.heap.size ≤ w7.heap.size := (K6.out.trans K7.out).size
      have hob5 : ob < w5.heap.size := HBL.out.lt
      have hbz : ∀ s, s < srcs zs n → bk s ≠ 0 := fun s hs => by have := hbk8 s hs; have := ((KW5.out.trans K6.out).trans K7.out).size; omega
      have HBZ := Lib.hid hbz
      have hrn : R qi < n := HD.out.root.1
      have hrf7 : w6.heap.size < w7.heap.size := Blk.lt R7.out
      -- the rows at w8
      have B8 : Hid (Blk w8 ob 4 (boolRow n L)) := Lib.hid (((HBL.out.kept K6.out).kept K7.out).kept k8)
      have T8 : Hid (IntAt w8 tb ((List.range n).map T)) := Lib.hid (T7.out.kept k8)
      have RT8 : Hid (IntAt w8 rb ((List.range n).map fun i => (R i : Int))) := Lib.hid ((((R4.out.kept HKP.out).kept K6.out).kept K7.out).kept k8)
      have RF8 : Hid (RefAt w8 w6.heap.size zs n) := Lib.hid (Blk.kept R7.out k8)
      obtain ⟨hcn, hpt⟩ := FChain.lift (zs := zs) (f := symI zs n T [] []) (show n ≤ 1048576 by omega) HTL.out (symI_link zs n T [] []) HD.out
      have HLNK := Lib.hid (fun j (hj : j < n) => lnk_after (zs := zs) (f := symI zs n T [] []) (show n ≤ 1048576 by omega) HTL.out (symI_link zs n T [] []) HD.out hj)
      have HVAL := Lib.hid (fun j (hj : j < n) => lay_valid zs n (symI zs n T [] []) hj)
      have HCN := Lib.hid hcn
      have h4 : rb < w7.heap.size := by have := RT8.out.1; have := HRB.out; have := K4.out.size; have := HKP.out.size; omega
      have h5 : tb < w7.heap.size := by have := HTB.out; have := HRB.out; omega
      clear hA8 k8 hbk8 hl8 hbz hcn hpt CB HBL C6 R7 T7
      generalize hSS : srcs zs n = S at *
      have HSS := Lib.hid hSS
      clear hSS
      generalize hrfb : w6.heap.size = rf at *
      have HRF := Lib.hid hrfb
      clear hrfb
      generalize hσ : lay zs n (symI zs n T [] []) = σ at *
      clear hσ
      unfold mapV
      obtain ⟨q0, q1⟩ := RF8.out.cells hqn
      obtain ⟨q2, q3⟩ := RF8.out.cells hrn
      have q4 := RT8.out.2 qi (by simpa using hqn)
      have eq4 : ((List.range n).map fun i => (R i : Int)).getD qi 0 = (R qi : Int) := by simp [hqn]
      rw [eq4] at q4
      clear eq4
      have hqni : (qi : Int) < (n : Int) := by omega
      have hrni : ((R qi : Nat) : Int) < (n : Int) := by omega
      have nbk : Hid (∀ s, s < S → bk s ≠ rf ∧ bk s ≠ rb ∧ bk s ≠ tb ∧ bk s ≠ ob) := Lib.hid (fun s hs => by have := HBK.out s hs; omega)
      generalize hpp : ref zs n qi = pp at *
      generalize hrr : ref zs n (R qi) = rr at *
      have HRR := Lib.hid hrr
      clear hpp hrr
      have HF := Lib.hid (fun (W : World) (k : Kept w8 W) (kb : W.cell? ⟨w8.heap.size, 0, none⟩ = some (.slice (some ⟨g, 0, none⟩) S S)) => (arena.follow g bk S σ rr HBZ.out d pp W (HA8.out.kept k) ((HI.out.kept KW8.out).kept k) HCN.out).mono (fun e w' (f : arena.Followed W g bk S σ d pp rr e w') => (show e = .returned (.agg #[.int .u32 (rr.1 : Int), .int .u32 (rr.2 : Int)]) ∧ (w'.cell? ⟨w8.heap.size, 0, none⟩ = some (.slice (some ⟨g, 0, none⟩) S S) ∧ w'.cell? ⟨rf, qi * 2, none⟩ = some (.int .u32 (pp.1 : Int)) ∧ w'.cell? ⟨rf, qi * 2 + 1, none⟩ = some (.int .u32 (pp.2 : Int)) ∧ w'.cell? ⟨rf, R qi * 2, none⟩ = some (.int .u32 (rr.1 : Int)) ∧ w'.cell? ⟨rf, R qi * 2 + 1, none⟩ = some (.int .u32 (rr.2 : Int)) ∧ w'.cell? ⟨rb, qi, none⟩ = some (.int .i64 (R qi : Int))) ∧ Hid (Arena w' g bk S (relink σ (path σ d pp) rr)) ∧ Hid (Turn W w' bk S) from by
        obtain ⟨f1, f2, f3⟩ := f
        have hn1 : ∀ s, s < S → bk s ≠ rf := fun s hs => (nbk.out s hs).1
        have hn2 : ∀ s, s < S → bk s ≠ rb := fun s hs => (nbk.out s hs).2.1
        exact ⟨f1, ⟨f3.cell kb (fun s hs => by have := HL8.out s hs; show bk s ≠ w8.heap.size; omega), f3.cell (k.cell q0) hn1, f3.cell (k.cell q1) hn1, f3.cell (k.cell q2) hn1, f3.cell (k.cell q3) hn1, f3.cell (k.cell q4) hn2⟩, Lib.hid f2, Lib.hid f3⟩)))
      unfold mapV refV at HF
      have hne : ∀ W : World, (binOp .neq 44 (.agg #[.int .u32 (rr.1 : Int), .int .u32 (rr.2 : Int)]) (.agg #[.int .u32 (rr.1 : Int), .int .u32 (rr.2 : Int)])).run Tryd.prog W = .ok (.bool false) W := fun W => by
        have := neRef W rr rr
        simpa using this
      go_wp2_with fail
      obtain ⟨wb, hwb⟩ : ∃ wb, wb = w8.alloc (.cells #[.slice (some ⟨g, 0, none⟩) S S] 39) := ⟨_, rfl⟩
      have KB : Hid (Kept w8 wb) := Lib.hid (by rw [hwb]; exact (Kept.refl _).alloc _)
      have BB : Hid (Blk wb w8.heap.size 39 [.slice (some ⟨g, 0, none⟩) S S]) := Lib.hid (by rw [hwb]; exact Blk.new _ _ _)
      have x16 : wb.cell? ⟨w8.heap.size, 0, none⟩ = some (.slice (some ⟨g, 0, none⟩) S S) := BB.out.cell 0
      have v0 := KB.out.cell q0
      have v1 := KB.out.cell q1
      have v2 := KB.out.cell q2
      have v3 := KB.out.cell q3
      have v4 := KB.out.cell q4
      rw [← hwb]
      clear hwb q0 q1 q2 q3 q4
      go_region_held3 (fun W => W.cell? ⟨w8.heap.size, 0, none⟩ = some (.slice (some ⟨g, 0, none⟩) S S) ∧ W.cell? ⟨rf, qi * 2, none⟩ = some (.int .u32 (pp.1 : Int)) ∧ W.cell? ⟨rf, qi * 2 + 1, none⟩ = some (.int .u32 (pp.2 : Int)) ∧ W.cell? ⟨rf, R qi * 2, none⟩ = some (.int .u32 (rr.1 : Int)) ∧ W.cell? ⟨rf, R qi * 2 + 1, none⟩ = some (.int .u32 (rr.2 : Int)) ∧ W.cell? ⟨rb, qi, none⟩ = some (.int .i64 (R qi : Int))) (first | exact hs | go_keep)
        (first | (go_at_call 19; refine (HF.out _ ?_ ?_).mono ?_; (repeat (first | exact KB.out | apply Kept.drew)); (simp [*]); rintro e w9 ⟨rfl, hs, hA9, hT9⟩))
      rename_i hheld
      clear hheld hs v0 v1 v2 v3 v4 x16 hne HF
      have KBD : Hid (Kept w8 wb.drew) := Lib.hid KB.out.drew
      have K9 : Hid (Kept w w9) := Lib.hid (Below.trans (KW8.out.trans KBD.out) (hT9.out.below (fun s hs => by have := HBK.out s hs; have := ((KW5.out.trans K6.out).trans K7.out).size; omega) (KW8.out.trans KBD.out).size))
      have x9 : w9.cell? ⟨w8.heap.size, 0, none⟩ = some (.slice (some ⟨g, 0, none⟩) S S) := (hT9.out.blk BB.out.drew (fun s hs => by have := HL8.out s hs; omega)).cell 0
      have B9 : Hid (Blk w9 ob 4 (boolRow n L)) := Lib.hid (hT9.out.blk (B8.out.kept KBD.out) (fun s hs => (nbk.out s hs).2.2.2))
      have T9 : Hid (IntAt w9 tb ((List.range n).map T)) := Lib.hid ((T8.out.kept KBD.out).turn hT9.out (fun s hs => (nbk.out s hs).2.2.1))
      have RT9 : Hid (IntAt w9 rb ((List.range n).map fun i => (R i : Int))) := Lib.hid ((RT8.out.kept KBD.out).turn hT9.out (fun s hs => (nbk.out s hs).2.1))
      have RF9 : Hid (RefAt w9 rf zs n) := Lib.hid (hT9.out.blk (Blk.kept RF8.out KBD.out) (fun s hs => (nbk.out s hs).1))
      generalize hτ : relink σ (path σ d pp) rr = τ at *
      have HA9 := hA9
      have HTAU : Hid (∀ j, j < n → lnk τ (ref zs n j) = if j ∈ L then rr else cut.linkOf zs n T j) := Lib.hid (fun j hj => by rw [HLNK.out j hj, HPP.out])
      have HVT : Hid (∀ j, j < n → Valid S τ (ref zs n j)) := Lib.hid (fun j hj => by rw [← hτ]; exact (relink_valid ..).2 (HVAL.out j hj))
      clear hτ hA9 hT9 HLNK HVAL HA8 HCN T8 RT8 RF8 B8
      go_wp2_with fail
      go_loopw [17, 18] (fun t _ wr => ∃ j : Nat, j ≤ n ∧ t = .int .i64 (j : Int) ∧ Kept w9 wr) (fun t _ _ => n - (intOf t).toNat)
      case atStart => exact ⟨0, by omega, rfl, Kept.refl _⟩
      case round =>
        obtain ⟨j, hj, rfl, hkr⟩ := hrel
        by_cases hjn : j < n
        · have hji : (j : Int) < (n : Int) := by omega
          have HKR := Lib.hid hkr
          clear hkr
          go_wp2_with fail
          refine (invC _).mono ?_
          rintro e w10 ⟨rfl, hk10⟩
          have KR : Hid (Kept w9 w10) := Lib.hid (HKR.out.trans hk10)
          have o1 := KR.out.cell ((B9.out.cell j).trans (boolRow_at L hjn))
          have t1 := KR.out.cell (T9.out.2 j (by simpa using hjn))
          have et : ((List.range n).map T).getD j 0 = T j := by simp [hjn]
          rw [et] at t1
          obtain ⟨j0, j1⟩ := RF9.out.cells hjn
          obtain ⟨r0, r1⟩ := RF9.out.cells hrn
          have r0' := KR.out.cell r0
          have r1' := KR.out.cell r1
          rw [HRR.out] at r0' r1'
          have r2 := KR.out.cell (RT9.out.2 qi (by simpa using hqn))
          have er : ((List.range n).map fun i => (R i : Int)).getD qi 0 = (R qi : Int) := by simp [hqn]
          rw [er] at r2
          have HVJ := Lib.hid (HVT.out j hjn)
          have l1 : ob < w10.heap.size := Nat.lt_of_lt_of_le B9.out.lt KR.out.size
          have l2 : tb < w10.heap.size := Nat.lt_of_lt_of_le T9.out.1 KR.out.size
          have l3 : rb < w10.heap.size := Nat.lt_of_lt_of_le RT9.out.1 KR.out.size
          have l4 : rf < w10.heap.size := Nat.lt_of_lt_of_le (Blk.lt RF9.out) KR.out.size
          clear et er r0 r1 hk10
          by_cases hmem : j ∈ L
          · have hmem2 : decide (j ∈ L) = true := by simpa using hmem
            have HW0 : Hid (lnk τ (ref zs n j) = rr) := Lib.hid (by rw [HTAU.out j hjn, if_pos hmem])
            rw [hmem2] at o1
            clear hmem hmem2
            generalize hpj : ref zs n j = pj at *
            clear hpj
            have HW := HW0
            have HCELL := Lib.hid (fun (W : World) (k : Kept w9 W) => (cellC W g bk S τ pj (HA9.out.kept k) HVJ.out).mono (fun e w' (f : e = .returned (symV (symAt τ pj)) ∧ Kept W w') => (show (∃ nm us fl kd, e = .returned (.agg #[.pointer none, .string nm, .int .u32 (rr.1 : Int), .int .u32 (rr.2 : Int), .int .u32 us, .int .u32 0, .int .u32 0, .int .u16 fl, .int .u8 kd, .int .u8 0])) ∧ Kept W w' from by
              obtain ⟨f1, f2⟩ := f
              have h1 := congrArg Prod.fst HW.out
              have h2 := congrArg Prod.snd HW.out
              simp only [lnk] at h1 h2
              refine ⟨⟨(symAt τ pj).name, ((symAt τ pj).use : Int), ((symAt τ pj).flags : Int), ((symAt τ pj).kind : Int), ?_⟩, f2⟩
              rw [f1, symV, h1, h2]
              try rfl)))
            unfold mapV refV at HCELL
            have hfld := fieldLink
            have hne2 : ∀ W : World, (binOp .neq 44 (.agg #[.int .u32 (rr.1 : Int), .int .u32 (rr.2 : Int)]) (.agg #[.int .u32 (rr.1 : Int), .int .u32 (rr.2 : Int)])).run Tryd.prog W = .ok (.bool false) W := fun W => by
              have := neRef W rr rr
              simpa [inv] using this
            go_wp2_with fail
            obtain ⟨wb, hwb⟩ : ∃ wb, wb = w10.alloc (.cells #[.int .u32 (rr.1 : Int), .int .u32 (rr.2 : Int)] 44) := ⟨_, rfl⟩
            have KB2 : Hid (Kept w9 wb) := Lib.hid (by rw [hwb]; exact (KR.out).alloc _)
            have BB2 : Hid (Blk wb w10.heap.size 44 [.int .u32 (rr.1 : Int), .int .u32 (rr.2 : Int)]) := Lib.hid (by rw [hwb]; exact Blk.new _ _ _)
            have c0 : wb.cell? ⟨w10.heap.size, 0, none⟩ = some (.int .u32 (rr.1 : Int)) := BB2.out.cell 0
            have c1 : wb.cell? ⟨w10.heap.size, 1, none⟩ = some (.int .u32 (rr.2 : Int)) := BB2.out.cell 1
            have c2 := KB2.out.cell x9
            have c3 := KB2.out.cell j0
            have c4 := KB2.out.cell j1
            rw [← hwb]
            clear hwb
            go_region_held3 (fun W => W.cell? ⟨w8.heap.size, 0, none⟩ = some (.slice (some ⟨g, 0, none⟩) S S) ∧ W.cell? ⟨rf, j * 2, none⟩ = some (.int .u32 (pj.1 : Int)) ∧ W.cell? ⟨rf, j * 2 + 1, none⟩ = some (.int .u32 (pj.2 : Int)) ∧ W.cell? ⟨w10.heap.size, 0, none⟩ = some (.int .u32 (rr.1 : Int)) ∧ W.cell? ⟨w10.heap.size, 1, none⟩ = some (.int .u32 (rr.2 : Int))) (first | exact ⟨hk11.cell c2, hk11.cell c3, hk11.cell c4, hk11.cell c0, hk11.cell c1⟩ | go_keep)
              (first | (go_at_call 21; refine (HCELL.out _ ?_).mono ?_; (repeat (first | exact KB2.out | apply Kept.drew)); rintro e w11 ⟨⟨nm, us, fl, kd, rfl⟩, hk11⟩))
            have K11 : Hid (Kept w9 w11) := Lib.hid (KB2.out.drew.trans hk11)
            rename_i hh2
            clear hh2 hk11 c0 c1 c2 c3 c4
            have HRX : Hid (∃ p : Nat, p ≤ n ∧ Value.int .i64 ((j : Int) + 1) = .int .i64 (p : Int) ∧ Kept w9 w11) := Lib.hid ⟨j + 1, by omega, by go_num, K11.out⟩
            go_wp2_with fail
            go_roundw
            case rel => first | exact HRX.out | ((repeat apply Exists.intro); exact ⟨HRX.out, rfl⟩)
            case measure => simp [intOf]; omega
          · have hmem2 : decide (j ∈ L) = false := by simpa using hmem
            rw [hmem2] at o1
            by_cases hneg : T j < 0
            · have HW0 : Hid (lnk τ (ref zs n j) = inv) := Lib.hid (by rw [HTAU.out j hjn, if_neg hmem, cut.linkOf, if_pos hneg])
              clear hmem hmem2
              generalize T j = tj at *
              generalize hpj : ref zs n j = pj at *
              clear hpj
              have HW := HW0
              have HCELL := Lib.hid (fun (W : World) (k : Kept w9 W) => (cellC W g bk S τ pj (HA9.out.kept k) HVJ.out).mono (fun e w' (f : e = .returned (symV (symAt τ pj)) ∧ Kept W w') => (show (∃ nm us fl kd, e = .returned (.agg #[.pointer none, .string nm, .int .u32 4294967295, .int .u32 4294967295, .int .u32 us, .int .u32 0, .int .u32 0, .int .u16 fl, .int .u8 kd, .int .u8 0])) ∧ Kept W w' from by
                obtain ⟨f1, f2⟩ := f
                have h1 := congrArg Prod.fst HW.out
                have h2 := congrArg Prod.snd HW.out
                simp only [lnk] at h1 h2
                refine ⟨⟨(symAt τ pj).name, ((symAt τ pj).use : Int), ((symAt τ pj).flags : Int), ((symAt τ pj).kind : Int), ?_⟩, f2⟩
                rw [f1, symV, h1, h2]
                try rfl)))
              unfold mapV refV at HCELL
              have hfld := fieldLink
              have hne2 : ∀ W : World, (binOp .neq 44 (.agg #[.int .u32 4294967295, .int .u32 4294967295]) (.agg #[.int .u32 4294967295, .int .u32 4294967295])).run Tryd.prog W = .ok (.bool false) W := fun W => by
                have := neRef W inv inv
                simpa [inv] using this
              go_wp2_with fail
              obtain ⟨wb, hwb⟩ : ∃ wb, wb = w10.alloc (.cells #[.int .u32 4294967295, .int .u32 4294967295] 44) := ⟨_, rfl⟩
              have KB2 : Hid (Kept w9 wb) := Lib.hid (by rw [hwb]; exact (KR.out).alloc _)
              have BB2 : Hid (Blk wb w10.heap.size 44 [.int .u32 4294967295, .int .u32 4294967295]) := Lib.hid (by rw [hwb]; exact Blk.new _ _ _)
              have c0 : wb.cell? ⟨w10.heap.size, 0, none⟩ = some (.int .u32 4294967295) := BB2.out.cell 0
              have c1 : wb.cell? ⟨w10.heap.size, 1, none⟩ = some (.int .u32 4294967295) := BB2.out.cell 1
              have c2 := KB2.out.cell x9
              have c3 := KB2.out.cell j0
              have c4 := KB2.out.cell j1
              rw [← hwb]
              clear hwb
              go_region_held3 (fun W => W.cell? ⟨w8.heap.size, 0, none⟩ = some (.slice (some ⟨g, 0, none⟩) S S) ∧ W.cell? ⟨rf, j * 2, none⟩ = some (.int .u32 (pj.1 : Int)) ∧ W.cell? ⟨rf, j * 2 + 1, none⟩ = some (.int .u32 (pj.2 : Int)) ∧ W.cell? ⟨w10.heap.size, 0, none⟩ = some (.int .u32 4294967295) ∧ W.cell? ⟨w10.heap.size, 1, none⟩ = some (.int .u32 4294967295)) (first | exact ⟨hk11.cell c2, hk11.cell c3, hk11.cell c4, hk11.cell c0, hk11.cell c1⟩ | go_keep)
                (first | (go_at_call 21; refine (HCELL.out _ ?_).mono ?_; (repeat (first | exact KB2.out | apply Kept.drew)); rintro e w11 ⟨⟨nm, us, fl, kd, rfl⟩, hk11⟩))
              have K11 : Hid (Kept w9 w11) := Lib.hid (KB2.out.drew.trans hk11)
              rename_i hh2
              clear hh2 hk11 c0 c1 c2 c3 c4
              have HRX : Hid (∃ p : Nat, p ≤ n ∧ Value.int .i64 ((j : Int) + 1) = .int .i64 (p : Int) ∧ Kept w9 w11) := Lib.hid ⟨j + 1, by omega, by go_num, K11.out⟩
              go_wp2_with fail
              go_roundw
              case rel => first | exact HRX.out | ((repeat apply Exists.intro); exact ⟨HRX.out, rfl⟩)
              case measure => simp [intOf]; omega
            · obtain ⟨y, hy⟩ := Int.eq_ofNat_of_zero_le (show 0 ≤ T j by omega)
              have hTj := HTL.out j hjn
              have HW0 : Hid (lnk τ (ref zs n j) = ref zs n y) := Lib.hid (by rw [HTAU.out j hjn, if_neg hmem, cut.linkOf, if_neg hneg, hy]; rfl)
              rw [hy] at t1 hTj hneg
              have hyn : y < n := by omega
              have hyi : (y : Int) < (n : Int) := by omega
              obtain ⟨u0, u1⟩ := RF9.out.cells hyn
              have u2 := KR.out.cell u0
              have u3 := KR.out.cell u1
              clear hmem hmem2 hy u0 u1
              generalize ref zs n y = ry at *
              generalize hpj : ref zs n j = pj at *
              clear hpj
              have HW := HW0
              have HCELL := Lib.hid (fun (W : World) (k : Kept w9 W) => (cellC W g bk S τ pj (HA9.out.kept k) HVJ.out).mono (fun e w' (f : e = .returned (symV (symAt τ pj)) ∧ Kept W w') => (show (∃ nm us fl kd, e = .returned (.agg #[.pointer none, .string nm, .int .u32 (ry.1 : Int), .int .u32 (ry.2 : Int), .int .u32 us, .int .u32 0, .int .u32 0, .int .u16 fl, .int .u8 kd, .int .u8 0])) ∧ Kept W w' from by
                obtain ⟨f1, f2⟩ := f
                have h1 := congrArg Prod.fst HW.out
                have h2 := congrArg Prod.snd HW.out
                simp only [lnk] at h1 h2
                refine ⟨⟨(symAt τ pj).name, ((symAt τ pj).use : Int), ((symAt τ pj).flags : Int), ((symAt τ pj).kind : Int), ?_⟩, f2⟩
                rw [f1, symV, h1, h2]
                try rfl)))
              unfold mapV refV at HCELL
              have hfld := fieldLink
              have hne2 : ∀ W : World, (binOp .neq 44 (.agg #[.int .u32 (ry.1 : Int), .int .u32 (ry.2 : Int)]) (.agg #[.int .u32 (ry.1 : Int), .int .u32 (ry.2 : Int)])).run Tryd.prog W = .ok (.bool false) W := fun W => by
                have := neRef W ry ry
                simpa [inv] using this
              go_wp2_with fail
              obtain ⟨wb, hwb⟩ : ∃ wb, wb = w10.alloc (.cells #[.int .u32 (ry.1 : Int), .int .u32 (ry.2 : Int)] 44) := ⟨_, rfl⟩
              have KB2 : Hid (Kept w9 wb) := Lib.hid (by rw [hwb]; exact (KR.out).alloc _)
              have BB2 : Hid (Blk wb w10.heap.size 44 [.int .u32 (ry.1 : Int), .int .u32 (ry.2 : Int)]) := Lib.hid (by rw [hwb]; exact Blk.new _ _ _)
              have c0 : wb.cell? ⟨w10.heap.size, 0, none⟩ = some (.int .u32 (ry.1 : Int)) := BB2.out.cell 0
              have c1 : wb.cell? ⟨w10.heap.size, 1, none⟩ = some (.int .u32 (ry.2 : Int)) := BB2.out.cell 1
              have c2 := KB2.out.cell x9
              have c3 := KB2.out.cell j0
              have c4 := KB2.out.cell j1
              rw [← hwb]
              clear hwb
              go_region_held3 (fun W => W.cell? ⟨w8.heap.size, 0, none⟩ = some (.slice (some ⟨g, 0, none⟩) S S) ∧ W.cell? ⟨rf, j * 2, none⟩ = some (.int .u32 (pj.1 : Int)) ∧ W.cell? ⟨rf, j * 2 + 1, none⟩ = some (.int .u32 (pj.2 : Int)) ∧ W.cell? ⟨w10.heap.size, 0, none⟩ = some (.int .u32 (ry.1 : Int)) ∧ W.cell? ⟨w10.heap.size, 1, none⟩ = some (.int .u32 (ry.2 : Int))) (first | exact ⟨hk11.cell c2, hk11.cell c3, hk11.cell c4, hk11.cell c0, hk11.cell c1⟩ | go_keep)
                (first | (go_at_call 21; refine (HCELL.out _ ?_).mono ?_; (repeat (first | exact KB2.out | apply Kept.drew)); rintro e w11 ⟨⟨nm, us, fl, kd, rfl⟩, hk11⟩))
              have K11 : Hid (Kept w9 w11) := Lib.hid (KB2.out.drew.trans hk11)
              rename_i hh2
              clear hh2 hk11 c0 c1 c2 c3 c4
              have HRX : Hid (∃ p : Nat, p ≤ n ∧ Value.int .i64 ((j : Int) + 1) = .int .i64 (p : Int) ∧ Kept w9 w11) := Lib.hid ⟨j + 1, by omega, by go_num, K11.out⟩
              go_wp2_with fail
              go_roundw
              case rel => first | exact HRX.out | ((repeat apply Exists.intro); exact ⟨HRX.out, rfl⟩)
              case measure => simp [intOf]; omega
        · obtain rfl : j = n := by omega
          have HKR := Lib.hid hkr
          clear hkr
          go_wp2_with fail
          go_ret
          exact ⟨rfl, K9.out.trans HKR.out⟩
    · have hpos : 0 ≤ T x := HX.out.2.1
      obtain ⟨y, hy⟩ := Int.eq_ofNat_of_zero_le hpos
      have HY : Hid (FChain n T e y (R qi)) := Lib.hid (by have := HX.out.2.2; rw [hy] at this; exact this)
      have HPY : Hid (fpath T d qi = (L ++ [x]) ++ fpath T e y) := Lib.hid (by rw [HP.out]; simp [fpath, hy])
      have z0 := (hbl.cell x).trans (boolRow_at L hxn)
      have z1 := hbl.free x
      have HNB : Hid (Blk (wr.setCell ⟨ob, x, none⟩ (.bool true)) ob 4 (boolRow n (L ++ [x])) ∧ Kept w4 (wr.setCell ⟨ob, x, none⟩ (.bool true))) := Lib.hid ⟨by rw [← boolRow_set L hxn]; exact hbl.set _ _, hkp.setCell (by show w4.heap.size ≤ ob; have := HOB.out; omega) _⟩
      have HDX : Hid (dep n T x = e + 1) := Lib.hid (dep_eq HX.out)
      have HDY : Hid (dep n T y = e) := Lib.hid (dep_eq HY.out)
      have htb : tb < ob := by have := HTB.out; have := HOB.out; omega
      rw [hy] at t0 hpos
      have HRX : Hid (∃ (x2 e2 : Nat) (L2 : List Nat), Value.int .i64 (y : Int) = .int .i64 (x2 : Int) ∧ Hid (FChain n T e2 x2 (R qi)) ∧ Hid (fpath T d qi = L2 ++ fpath T e2 x2) ∧ Blk (wr.setCell ⟨ob, x, none⟩ (.bool true)) ob 4 (boolRow n L2) ∧ Kept w4 (wr.setCell ⟨ob, x, none⟩ (.bool true))) := Lib.hid ⟨y, e, L ++ [x], rfl, HY, HPY, HNB.out.1, HNB.out.2⟩
      clear hbl hkp HX HP HNB HO0 hy
      generalize decide (x ∈ L) = bx at *
      go_wp2_with fail
      go_roundw
      case rel => first | exact HRX.out | ((repeat apply Exists.intro); exact ⟨HRX.out, rfl⟩)
      case measure => simp only [intOf, Int.toNat_natCast]; rw [HDX.out, HDY.out]; omega

theorem walk (a0 : Option Addr) (len0 cap0 : Nat) (z0 : List Int) (a1 : Option Addr) (len1 cap1 : Nat) (z1 : List Int) (a2 : Int) (w : World) (w0 : IsRow .u16 w a0 len0 cap0 z0) (w1 : IsRow .i32 w a1 len1 cap1 z1) (w2 : (Lit.int .u32 a2).wf = true)
    (hi0 : w.cell? ⟨0, 0, none⟩ = some (.int .u32 4294967295)) (hi1 : w.cell? ⟨0, 1, none⟩ = some (.int .u32 4294967295)) :
    Calls Tryd.prog 5 #[.slice a0 len0 cap0, .slice a1 len1 cap1, .int .u32 a2] w fun e w' => e = .returned (.bool true) ∧ Below w.heap.size w w' := by
  have hm0 : len0 ≤ 9223372036854775807 := by
    rcases w0 with ⟨rfl, rfl, rfl, rfl⟩ | ⟨x, rfl, hl, hm, hz, hc, hw⟩
    · omega
    · unfold maxLen at hm; omega
  have hm1 : len1 ≤ 9223372036854775807 := by
    rcases w1 with ⟨rfl, rfl, rfl, rfl⟩ | ⟨x, rfl, hl, hm, hz, hc, hw⟩
    · omega
    · unfold maxLen at hm; omega
  have H0 : Hid (Row w a0 len0 cap0 ((z0.take len0).map (Value.int .u16))) := by
    rcases w0 with ⟨rfl, rfl, rfl, rfl⟩ | ⟨x, rfl, hl, hm, hz, hc, hw⟩
    · exact Lib.hid (Row.nil w)
    · exact Lib.hid (Row.of_cells hl hm hz hc)
  have H1 : Hid (Row w a1 len1 cap1 ((z1.take len1).map (Value.int .i32))) := by
    rcases w1 with ⟨rfl, rfl, rfl, rfl⟩ | ⟨x, rfl, hl, hm, hz, hc, hw⟩
    · exact Lib.hid (Row.nil w)
    · exact Lib.hid (Row.of_cells hl hm hz hc)
  have HZ : Hid (∀ j, j < len0 → 0 ≤ (z0.take len0).getD j 0 ∧ (z0.take len0).getD j 0 ≤ 65535) := by
    refine Lib.hid (fun j hj => getD_mem2 (P := fun x => 0 ≤ x ∧ x ≤ 65535) (fun x hx => ?_) (by have := H0.out.1; simp only [List.length_map] at this; omega))
    rcases w0 with ⟨rfl, rfl, rfl, rfl⟩ | ⟨y, rfl, hl, hm, hz, hc, hw⟩
    · simp at hx
    · exact wf16 (hw x (List.mem_of_mem_take hx))
  have HL : Hid (∀ j, j < len1 → -2147483648 ≤ (z1.take len1).getD j 0 ∧ (z1.take len1).getD j 0 ≤ 2147483647) := by
    refine Lib.hid (fun j hj => getD_mem2 (P := fun x => -2147483648 ≤ x ∧ x ≤ 2147483647) (fun x hx => ?_) (by have := H1.out.1; simp only [List.length_map] at this; omega))
    rcases w1 with ⟨rfl, rfl, rfl, rfl⟩ | ⟨y, rfl, hl, hm, hz, hc, hw⟩
    · simp at hx
    · exact wfi32 (hw x (List.mem_of_mem_take hx))
  obtain ⟨s0, s1⟩ := wfu32 w2
  have HI : Hid (Inv w) := Lib.hid ⟨hi0, hi1⟩
  clear w0 w1 w2 hi0 hi1
  by_cases c0 : len0 + len1 ≤ 1048576
  · have HBY := Lib.hid (bytes25_ok a0 len0 cap0 a1 len1 cap1 a2 w (by omega))
    by_cases cs : 1048576 < 2 * len0 + 4 * len1
    · go_enter Tryd.func5, Tryd.ntmps5
      go_wp2_with fail
      refine HBY.out.mono ?_
      rintro e w' ⟨rfl, rfl⟩
      go_wp2_with fail
      go_ret
      exact ⟨rfl, Below.refl _ _⟩
    by_cases c1 : 4096 < len0
    · go_enter Tryd.func5, Tryd.ntmps5
      go_wp2_with fail
      refine HBY.out.mono ?_
      rintro e w' ⟨rfl, rfl⟩
      go_wp2_with fail
      go_ret
      exact ⟨rfl, Below.refl _ _⟩
    by_cases c2 : 4096 < len1
    · go_enter Tryd.func5, Tryd.ntmps5
      go_wp2_with fail
      refine HBY.out.mono ?_
      rintro e w' ⟨rfl, rfl⟩
      go_wp2_with fail
      go_ret
      exact ⟨rfl, Below.refl _ _⟩
    by_cases c3 : len1 = 0
    · subst c3
      have C0 := Lib.hid (clone16.run a0 len0 cap0 _ w H0.out (by omega))
      go_enter Tryd.func5, Tryd.ntmps5
      go_wp2_with fail
      refine HBY.out.mono ?_
      rintro e w' ⟨rfl, rfl⟩
      go_wp2_with fail
      refine C0.out.mono ?_
      rintro e w1 ⟨p0, rfl, o0, _, k1⟩
      have K1 := Lib.hid k1
      have C1 := Lib.hid (cloneI32.run a1 0 cap1 _ w1 (H1.out.kept k1) (by omega))
      clear o0 k1 C0 HBY H1
      go_wp2_with fail
      refine C1.out.mono ?_
      rintro e w2 ⟨p1, rfl, o1, _, k2⟩
      have K2 := Lib.hid k2
      clear o1 k2 C1
      go_wp2_with fail
      go_ret
      exact ⟨rfl, K1.out.trans K2.out⟩
    · exact main a0 len0 cap0 _ a1 len1 cap1 _ a2 w H0.out H1.out HZ.out HL.out (by omega) (by omega) (by omega) s0 s1 HI.out
  · have HBY := Lib.hid (bytes25_no a0 len0 cap0 a1 len1 cap1 a2 w c0 hm0 hm1)
    go_enter Tryd.func5, Tryd.ntmps5
    go_wp2_with fail
    refine HBY.out.mono ?_
    rintro e w' ⟨rfl, rfl⟩
    go_wp2_with fail
    go_ret
    exact ⟨rfl, Below.refl _ _⟩
end Go.Proofs.YticcbjgjjmmbcaaDoor.fnFollowSymbolsCompressesOnlyItsPath
