/-
  The walk of FnFollowAllSymbolsFlattens: After FollowAllSymbols each chain end has no link, and every other symbol links directly to its chain's end.
  Conditions: none beyond those of the given statement Rows.FnFollowAllSymbolsFlattensSaid.
-/
import Derived.Test.YticcbjgjjmmbcaaDoorRows
import Derived.WalkKit
import Derived.ProofKit
import Derived.OpenShut
import Derived.ShutString
import Derived.ChangeOld
import Derived.Below
import Derived.Test.YticcbjgjjmmbcaaDoorP236
import Derived.Test.YticcbjgjjmmbcaaDoorFolAll
import Derived.Test.YticcbjgjjmmbcaaDoorClone16
import Derived.Test.YticcbjgjjmmbcaaDoorCloneI32
namespace Go.Proofs.YticcbjgjjmmbcaaDoor.fnFollowAllSymbolsFlattens
open Go.ChangeShapes Go.WideShapes Go.ChangeAt Go.RowKit
open Go.ChangeMaps (open_string shut_string)
set_option linter.unusedVariables false


/-- WHAT THE WALK IS TOLD OF A SLICE OF INTEGERS THAT CAME IN: it is nil; or it leads to a row of 'cap' cells, the numbers 'zs' (the first 'len' are its elements, the rest its spare room), each fitting its kind. -/
def IsRow (k : IntKind) (w : World) (a : Option Addr) (len cap : Nat) (zs : List Int) : Prop :=
  (a = none ∧ len = 0 ∧ cap = 0 ∧ zs = []) ∨
  ∃ x, a = some x ∧ len ≤ cap ∧ cap ≤ maxLen ∧ zs.length = cap ∧ (∀ i, i < zs.length → w.cell? (x.add i) = some (.int k (zs.getD i 0))) ∧ ∀ n ∈ zs, (Lit.int k n).wf = true

open kit chain arena cut arr p236

theorem bytes22_ok (a0 : Option Addr) (len0 cap0 : Nat) (a1 : Option Addr) (len1 cap1 : Nat) (w : World) (h : len0 + len1 ≤ 1048576) :
    Calls Tryd.prog 22 #[.slice a0 len0 cap0, .slice a1 len1 cap1] w fun e w' => e = .returned (.bool true) ∧ w = w' := by
  go_enter Tryd.func22, Tryd.ntmps22
  go_wp2
  go_ret
  exact ⟨rfl, rfl⟩
theorem bytes22_no (a0 : Option Addr) (len0 cap0 : Nat) (a1 : Option Addr) (len1 cap1 : Nat) (w : World) (h : ¬ len0 + len1 ≤ 1048576) (m0 : len0 ≤ 9223372036854775807) (m1 : len1 ≤ 9223372036854775807) :
    Calls Tryd.prog 22 #[.slice a0 len0 cap0, .slice a1 len1 cap1] w fun e w' => e = .returned (.bool false) ∧ w = w' := by
  by_cases h0 : 1048576 < len0
  · go_enter Tryd.func22, Tryd.ntmps22
    go_wp2
    go_ret
    exact ⟨rfl, rfl⟩
  by_cases h1 : 1048576 < len1
  · go_enter Tryd.func22, Tryd.ntmps22
    go_wp2
    go_ret
    exact ⟨rfl, rfl⟩
  · go_enter Tryd.func22, Tryd.ntmps22
    go_wp2
    go_ret
    exact ⟨rfl, rfl⟩

theorem fieldLink (nm : ByteArray) (x y us fl kd : Int) (W : World) : (Instr.field 57 (.agg #[.pointer none, .string nm, .int .u32 x, .int .u32 y, .int .u32 us, .int .u32 0, .int .u32 0, .int .u16 fl, .int .u8 kd, .int .u8 0]) 2).run Tryd.prog W = .ok (.agg #[.int .u32 x, .int .u32 y]) W := by kernel_rfl

set_option maxRecDepth 100000 in
set_option maxHeartbeats 16000000 in
theorem main (a0 : Option Addr) (m c0 : Nat) (zs : List Int) (a1 : Option Addr) (n c1 : Nat) (ls : List Int) (w : World) (h0 : Row w a0 m c0 (zs.map (Value.int .u16))) (h1 : Row w a1 n c1 (ls.map (Value.int .i32)))
    (hz : ∀ j, j < m → 0 ≤ zs.getD j 0 ∧ zs.getD j 0 ≤ 65535) (hl : ∀ j, j < n → -2147483648 ≤ ls.getD j 0 ∧ ls.getD j 0 ≤ 2147483647) (hm : m ≤ 4096) (hn0 : 1 ≤ n) (hn : n ≤ 4096) (hI : Inv w) :
    Calls Tryd.prog 4 #[.slice a0 m c0, .slice a1 n c1] w fun e w' => e = .returned (.bool true) ∧ Below w.heap.size w w' := by
  have hz0 : ((n : Int) == 0) = false := by simp; omega
  have HBY := Lib.hid (bytes22_ok a0 m c0 a1 n c1 w (by omega))
  have C0 := Lib.hid (clone16.run a0 m c0 zs w h0 (by omega))
  have H1 := Lib.hid h1
  have HZ := Lib.hid hz
  have HL := Lib.hid hl
  have HI := Lib.hid hI
  have HZL : Hid (zs.length = m) := Lib.hid (by simpa using h0.1)
  have hTl : ∀ i, i < n → tgtOf ls n i < (n : Int) := fun i _ => (tgt_lt hn0).1
  have HTL := Lib.hid hTl
  have hS : srcs zs n ≤ 4097 := srcs_le HZL.out hm
  have HS := Lib.hid hS
  clear h0 h1 hz hl hI hTl hS
  go_enter Tryd.func4, Tryd.ntmps4
  go_wp2_with fail
  refine HBY.out.mono ?_
  rintro e w' ⟨rfl, rfl⟩
  go_wp2_with fail
  refine C0.out.mono ?_
  rintro e w1 ⟨p0, rfl, o0, _, k1⟩
  have R0 := Lib.hid (Ints.of_row (Row.of_own o0))
  have K1 := Lib.hid k1
  have C1 := Lib.hid (cloneI32.run a1 n c1 ls w1 (H1.out.kept k1) (by omega))
  clear o0 k1 C0 HBY H1
  go_wp2_with fail
  refine C1.out.mono ?_
  rintro e w2 ⟨p1, rfl, o1, _, k2⟩
  have R1 := Lib.hid (Ints.of_row (Row.of_own o1))
  have K2 := Lib.hid k2
  have CT := Lib.hid (targetsC p1 n n ls w2 R1.out HL.out hn)
  clear o1 k2 C1
  go_wp2_with fail
  refine CT.out.mono ?_
  rintro e w3 ⟨rfl, hT3, k3⟩
  have T3 := Lib.hid hT3
  have K3 := Lib.hid k3
  have CR := Lib.hid (rootsC w2.heap.size n n (tgtOf ls n) w3 hT3 HTL.out hn0 hn)
  clear hT3 k3 CT
  go_wp2_with fail
  refine CR.out.mono ?_
  rintro e w4 ⟨k4, rfl | ⟨R, rfl, hR4, hch⟩⟩
  · have K4 := Lib.hid k4
    clear k4
    go_wp2_with fail
    go_ret
    exact ⟨rfl, ((K1.out.trans K2.out).trans K3.out).trans K4.out⟩
  have K4 := Lib.hid k4
  have T4 := Lib.hid (T3.out.kept k4)
  have R4 := Lib.hid hR4
  have HCH := Lib.hid hch
  have ht3 : w2.heap.size < w3.heap.size := T3.out.1
  have hr4 : w3.heap.size < w4.heap.size := hR4.1
  clear k4 hR4 hch CR T3
  generalize hT : tgtOf ls n = T at *
  clear hT
  generalize htb : w2.heap.size = tb at *
  generalize hrb : w3.heap.size = rb at *
  have HTB := Lib.hid htb
  have HRB := Lib.hid hrb
  clear htb hrb
  have CC := Lib.hid (countsC p0 m m n zs w4 ((((R0.out.kept K2.out).kept K3.out).kept K4.out)) HZ.out hm hn)
  go_wp2_with fail
  refine CC.out.mono ?_
  rintro e w6 ⟨cc, rfl, hc6, k6⟩
  have K6 := Lib.hid k6
  have CF := Lib.hid (refsC w4.heap.size cc n zs w6 hc6 HS.out hn)
  have C6 := Lib.hid hc6
  clear k6 hc6 CC
  go_wp2_with fail
  refine CF.out.mono ?_
  rintro e w7 ⟨rfl, hr7, k7⟩
  have K7 := Lib.hid k7
  have R7 := Lib.hid hr7
  have T7 := Lib.hid ((T4.out.kept K6.out).kept k7)
  have CB := Lib.hid (buildC w4.heap.size cc w6.heap.size n tb n none 0 0 none 0 0 n zs [] [] T w7 (C6.out.kept k7) hr7 T7.out (Ints.empty _ _) (Ints.empty _ _) HTL.out (fun i => by simp) (fun i => by simp) HS.out hn (by omega) (by omega))
  clear k7 hr7 CF
  go_wp2_with fail
  refine CB.out.mono ?_
  rintro e w8 ⟨g, bk, rfl, hg8, hbk8, hA8, k8⟩
  have HA8 := Lib.hid hA8
  have K8 := Lib.hid k8
  have HBK := Lib.hid hbk8
  have hl8 : ∀ s, s < srcs zs n → bk s < w8.heap.size := fun s hs => hA8.lt hs
  have HL8 := Lib.hid hl8
  have hpos : 0 < w.heap.size := World.block_lt_of_cell? w _ HI.out.1
  have KW4 : Hid (Kept w w4) := Lib.hid (((K1.out.trans K2.out).trans K3.out).trans K4.out)
  have KW8 : Hid (Kept w w8) := Lib.hid (((KW4.out.trans K6.out).trans K7.out).trans K8.out)
  have hbz : ∀ s, s < srcs zs n → bk s ≠ 0 := fun s hs => by have := hbk8 s hs; have := ((KW4.out.trans K6.out).trans K7.out).size; omega
  have HBZ := Lib.hid hbz
  have hrf7 : w6.heap.size < w7.heap.size := Blk.lt R7.out
  have RT8 : Hid (IntAt w8 rb ((List.range n).map fun i => (R i : Int))) := Lib.hid (((R4.out.kept K6.out).kept K7.out).kept k8)
  have RF8 : Hid (RefAt w8 w6.heap.size zs n) := Lib.hid (Blk.kept R7.out k8)
  have h4 : rb < w7.heap.size := by have := R4.out.1; have := HRB.out; have := (K6.out.trans K7.out).size; omega
  -- the ends of the chains
  have hRn : ∀ i, i < n → R i < n := fun i hi => by obtain ⟨d, hd⟩ := HCH.out i hi; exact hd.root.1
  have HRN := Lib.hid hRn
  have hval : ∀ p, Valid (srcs zs n) (lay zs n (symI zs n T [] [])) p → pos zs n p.1 + p.2 < n ∧ ref zs n (pos zs n p.1 + p.2) = p := fun p hp => by
    have h1 := ref_flat zs n hp.1 (j := p.2) (by have := hp.2; rw [lay_length] at this; exact this)
    exact h1
  have HCHN : Hid (∀ p, Valid (srcs zs n) (lay zs n (symI zs n T [] [])) p → ∃ d, Chain (srcs zs n) (lay zs n (symI zs n T [] [])) d p (ref zs n (R (pos zs n p.1 + p.2)))) := Lib.hid (fun p hp => by
    obtain ⟨h1, h2⟩ := hval p hp
    obtain ⟨d, hd⟩ := HCH.out _ h1
    have h3 := (FChain.lift (zs := zs) (f := symI zs n T [] []) (show n ≤ 1048576 by omega) HTL.out (symI_link zs n T [] []) hd).1
    rw [h2] at h3
    exact ⟨d, h3⟩)
  have HNI : Hid (∀ p, Valid (srcs zs n) (lay zs n (symI zs n T [] [])) p → ref zs n (R (pos zs n p.1 + p.2)) ≠ inv) := Lib.hid (fun p hp => by
    obtain ⟨h1, h2⟩ := hval p hp
    have h3 := (ref_ok zs n (HRN.out _ h1)).2.2.1
    have h4 := HS.out
    intro hc
    rw [hc] at h3
    simp only [inv] at h3
    omega)
  have HFL : Hid (∀ i, i < n → flat (fun p => ref zs n (R (pos zs n p.1 + p.2))) (ref zs n i) = if R i = i then inv else ref zs n (R i)) := Lib.hid (fun i hi => by
    obtain ⟨a, b, c, d⟩ := ref_ok zs n hi
    have e : pos zs n (ref zs n i).1 + (ref zs n i).2 = i := by rw [d]; omega
    unfold flat
    simp only [e]
    by_cases hR : R i = i
    · rw [if_pos hR, if_pos (by rw [hR])]
    · rw [if_neg hR, if_neg (fun hc => hR (ref_inj zs n (HRN.out i hi) hi hc))])
  have HVAL := Lib.hid (fun j (hj : j < n) => lay_valid zs n (symI zs n T [] []) hj)
  clear hA8 k8 hbk8 hl8 hbz CB C6 R7 T7 hval hRn
  generalize hSS : srcs zs n = S at *
  have HSS := Lib.hid hSS
  clear hSS
  generalize hrfb : w6.heap.size = rf at *
  have HRF := Lib.hid hrfb
  clear hrfb
  generalize hσ : lay zs n (symI zs n T [] []) = σ at *
  clear hσ
  have nbk : Hid (∀ s, s < S → bk s ≠ rf ∧ bk s ≠ rb) := Lib.hid (fun s hs => by have := HBK.out s hs; omega)
  have HALL := Lib.hid (fun (W : World) (k : Kept w8 W) => allC W g bk S σ (fun p => ref zs n (R (pos zs n p.1 + p.2))) (HA8.out.kept k) ((HI.out.kept KW8.out).kept k) HBZ.out HCHN.out HNI.out)
  have BB : Hid (Blk (w8.alloc (.cells #[.slice (some ⟨g, 0, none⟩) S S] 39)) w8.heap.size 39 [.slice (some ⟨g, 0, none⟩) S S]) := Lib.hid (Blk.new _ _ _)
  have KB : Hid (Kept w8 (w8.alloc (.cells #[.slice (some ⟨g, 0, none⟩) S S] 39))) := Lib.hid ((Kept.refl _).alloc _)
  unfold mapV at HALL ⊢
  go_wp2_with fail
  refine (HALL.out _ ((Kept.refl _).alloc _)).mono ?_
  rintro e w9 ⟨τ, rfl, hA9, hG9, hT9⟩
  have K9 : Hid (Kept w w9) := Lib.hid (Below.trans (KW8.out.trans KB.out) (hT9.below (fun s hs => by have := HBK.out s hs; have := ((KW4.out.trans K6.out).trans K7.out).size; omega) (KW8.out.trans KB.out).size))
  have x9 : w9.cell? ⟨w8.heap.size, 0, none⟩ = some (.slice (some ⟨g, 0, none⟩) S S) := (hT9.blk BB.out (fun s hs => by have := HL8.out s hs; omega)).cell 0
  have RT9 : Hid (IntAt w9 rb ((List.range n).map fun i => (R i : Int))) := Lib.hid ((RT8.out.kept KB.out).turn hT9 (fun s hs => (nbk.out s hs).2))
  have RF9 : Hid (RefAt w9 rf zs n) := Lib.hid (hT9.blk (Blk.kept RF8.out KB.out) (fun s hs => (nbk.out s hs).1))
  have HA9 := Lib.hid hA9
  have HTAU : Hid (∀ j, j < n → lnk τ (ref zs n j) = if R j = j then inv else ref zs n (R j)) := Lib.hid (fun j hj => by rw [hG9.done _ (HVAL.out j hj) trivial, HFL.out j hj])
  have HVT : Hid (∀ j, j < n → Valid S τ (ref zs n j)) := Lib.hid (fun j hj => hG9.valid.2 (HVAL.out j hj))
  clear hA9 hG9 hT9 HVAL HA8 HCHN HNI HFL HALL RT8 RF8
  go_wp2_with fail
  go_loopw [12, 13] (fun t _ wr => ∃ j : Nat, j ≤ n ∧ t = .int .i64 (j : Int) ∧ Kept w9 wr) (fun t _ _ => n - (intOf t).toNat)
  case atStart => exact ⟨0, by omega, rfl, Kept.refl _⟩
  case round =>
    obtain ⟨j, hj, rfl, hkr⟩ := hrel
    by_cases hjn : j < n
    · have hji : (j : Int) < (n : Int) := by omega
      have HKR := Lib.hid hkr
      clear hkr
      go_wp2_with fail
      refine (invC _).mono ?_
      rintro e w10 ⟨rfl, hk10⟩
      have KR : Hid (Kept w9 w10) := Lib.hid (HKR.out.trans hk10)
      obtain ⟨j0, j1⟩ := RF9.out.cells hjn
      have hrn := HRN.out j hjn
      have hrni : ((R j : Nat) : Int) < (n : Int) := by omega
      obtain ⟨r0, r1⟩ := RF9.out.cells hrn
      have r0' := KR.out.cell r0
      have r1' := KR.out.cell r1
      have r2 := KR.out.cell (RT9.out.2 j (by simpa using hjn))
      have er : ((List.range n).map fun i => (R i : Int)).getD j 0 = (R j : Int) := by simp [hjn]
      rw [er] at r2
      have HVJ := Lib.hid (HVT.out j hjn)
      have l3 : rb < w10.heap.size := Nat.lt_of_lt_of_le RT9.out.1 KR.out.size
      have l4 : rf < w10.heap.size := Nat.lt_of_lt_of_le (Blk.lt RF9.out) KR.out.size
      have r2' := ((Kept.refl w10).alloc (.cells #[.int .u32 4294967295, .int .u32 4294967295] 44)).cell r2
      clear er r0 r1 hk10
      by_cases hmem : R j = j
      · have HW0 : Hid (lnk τ (ref zs n j) = inv) := Lib.hid (by rw [HTAU.out j hjn, if_pos hmem])
        have hnq : (((R j : Nat) : Int) != (j : Int)) = false := by simp [hmem]
        clear hmem
        generalize R j = rj at *
        generalize hpj : ref zs n j = pj at *
        clear hpj
        have HW := HW0
        have HCELL := Lib.hid (fun (W : World) (k : Kept w9 W) => (cellC W g bk S τ pj (HA9.out.kept k) HVJ.out).mono (fun e w' (f : e = .returned (symV (symAt τ pj)) ∧ Kept W w') => (show (∃ nm us fl kd, e = .returned (.agg #[.pointer none, .string nm, .int .u32 4294967295, .int .u32 4294967295, .int .u32 us, .int .u32 0, .int .u32 0, .int .u16 fl, .int .u8 kd, .int .u8 0])) ∧ Kept W w' from by
          obtain ⟨f1, f2⟩ := f
          have h1 := congrArg Prod.fst HW.out
          have h2 := congrArg Prod.snd HW.out
          simp only [lnk] at h1 h2
          refine ⟨⟨(symAt τ pj).name, ((symAt τ pj).use : Int), ((symAt τ pj).flags : Int), ((symAt τ pj).kind : Int), ?_⟩, f2⟩
          rw [f1, symV, h1, h2]
          try rfl)))
        unfold mapV refV at HCELL
        have hfld := fieldLink
        have hne2 : ∀ W : World, (binOp .neq 44 (.agg #[.int .u32 4294967295, .int .u32 4294967295]) (.agg #[.int .u32 4294967295, .int .u32 4294967295])).run Tryd.prog W = .ok (.bool false) W := fun W => by
          have := neRef W inv inv
          simpa [inv] using this
        go_wp2_with fail
        obtain ⟨wb, hwb⟩ : ∃ wb, wb = w10.alloc (.cells #[.int .u32 4294967295, .int .u32 4294967295] 44) := ⟨_, rfl⟩
        have KB2 : Hid (Kept w9 wb) := Lib.hid (by rw [hwb]; exact (KR.out).alloc _)
        have BB2 : Hid (Blk wb w10.heap.size 44 [.int .u32 4294967295, .int .u32 4294967295]) := Lib.hid (by rw [hwb]; exact Blk.new _ _ _)
        have c0 : wb.cell? ⟨w10.heap.size, 0, none⟩ = some (.int .u32 4294967295) := BB2.out.cell 0
        have c1 : wb.cell? ⟨w10.heap.size, 1, none⟩ = some (.int .u32 4294967295) := BB2.out.cell 1
        have c2 := KB2.out.cell x9
        have c3 := KB2.out.cell j0
        have c4 := KB2.out.cell j1
        rw [← hwb]
        clear hwb
        go_region_held3 (fun W => W.cell? ⟨w8.heap.size, 0, none⟩ = some (.slice (some ⟨g, 0, none⟩) S S) ∧ W.cell? ⟨rf, j * 2, none⟩ = some (.int .u32 (pj.1 : Int)) ∧ W.cell? ⟨rf, j * 2 + 1, none⟩ = some (.int .u32 (pj.2 : Int)) ∧ W.cell? ⟨w10.heap.size, 0, none⟩ = some (.int .u32 4294967295) ∧ W.cell? ⟨w10.heap.size, 1, none⟩ = some (.int .u32 4294967295)) (first | exact ⟨hk11.cell c2, hk11.cell c3, hk11.cell c4, hk11.cell c0, hk11.cell c1⟩ | go_keep)
          (first | (go_at_call 21; refine (HCELL.out _ ?_).mono ?_; (repeat (first | exact KB2.out | apply Kept.drew)); rintro e w11 ⟨⟨nm, us, fl, kd, rfl⟩, hk11⟩))
        have K11 : Hid (Kept w9 w11) := Lib.hid (KB2.out.drew.trans hk11)
        rename_i hh2
        clear hh2 hk11 c0 c1 c2 c3 c4
        have HRX : Hid (∃ p : Nat, p ≤ n ∧ Value.int .i64 ((j : Int) + 1) = .int .i64 (p : Int) ∧ Kept w9 w11) := Lib.hid ⟨j + 1, by omega, by go_num, K11.out⟩
        go_wp2_with fail
        go_roundw
        case rel => first | exact HRX.out | ((repeat apply Exists.intro); exact ⟨HRX.out, rfl⟩)
        case measure => simp [intOf]; omega
      · have HW0 : Hid (lnk τ (ref zs n j) = ref zs n (R j)) := Lib.hid (by rw [HTAU.out j hjn, if_neg hmem])
        have hnq : (((R j : Nat) : Int) != (j : Int)) = true := by simp; omega
        clear hmem
        generalize ref zs n (R j) = ry at *
        generalize R j = rj at *
        generalize hpj : ref zs n j = pj at *
        clear hpj
        have HW := HW0
        have HCELL := Lib.hid (fun (W : World) (k : Kept w9 W) => (cellC W g bk S τ pj (HA9.out.kept k) HVJ.out).mono (fun e w' (f : e = .returned (symV (symAt τ pj)) ∧ Kept W w') => (show (∃ nm us fl kd, e = .returned (.agg #[.pointer none, .string nm, .int .u32 (ry.1 : Int), .int .u32 (ry.2 : Int), .int .u32 us, .int .u32 0, .int .u32 0, .int .u16 fl, .int .u8 kd, .int .u8 0])) ∧ Kept W w' from by
          obtain ⟨f1, f2⟩ := f
          have h1 := congrArg Prod.fst HW.out
          have h2 := congrArg Prod.snd HW.out
          simp only [lnk] at h1 h2
          refine ⟨⟨(symAt τ pj).name, ((symAt τ pj).use : Int), ((symAt τ pj).flags : Int), ((symAt τ pj).kind : Int), ?_⟩, f2⟩
          rw [f1, symV, h1, h2]
          try rfl)))
        unfold mapV refV at HCELL
        have hfld := fieldLink
        have hne2 : ∀ W : World, (binOp .neq 44 (.agg #[.int .u32 (ry.1 : Int), .int .u32 (ry.2 : Int)]) (.agg #[.int .u32 (ry.1 : Int), .int .u32 (ry.2 : Int)])).run Tryd.prog W = .ok (.bool false) W := fun W => by
          have := neRef W ry ry
          simpa [inv] using this
        go_wp2_with fail
        obtain ⟨wb, hwb⟩ : ∃ wb, wb = w10.alloc (.cells #[.int .u32 (ry.1 : Int), .int .u32 (ry.2 : Int)] 44) := ⟨_, rfl⟩
        have KB2 : Hid (Kept w9 wb) := Lib.hid (by rw [hwb]; exact (KR.out).alloc _)
        have BB2 : Hid (Blk wb w10.heap.size 44 [.int .u32 (ry.1 : Int), .int .u32 (ry.2 : Int)]) := Lib.hid (by rw [hwb]; exact Blk.new _ _ _)
        have c0 : wb.cell? ⟨w10.heap.size, 0, none⟩ = some (.int .u32 (ry.1 : Int)) := BB2.out.cell 0
        have c1 : wb.cell? ⟨w10.heap.size, 1, none⟩ = some (.int .u32 (ry.2 : Int)) := BB2.out.cell 1
        have c2 := KB2.out.cell x9
        have c3 := KB2.out.cell j0
        have c4 := KB2.out.cell j1
        rw [← hwb]
        clear hwb
        go_region_held3 (fun W => W.cell? ⟨w8.heap.size, 0, none⟩ = some (.slice (some ⟨g, 0, none⟩) S S) ∧ W.cell? ⟨rf, j * 2, none⟩ = some (.int .u32 (pj.1 : Int)) ∧ W.cell? ⟨rf, j * 2 + 1, none⟩ = some (.int .u32 (pj.2 : Int)) ∧ W.cell? ⟨w10.heap.size, 0, none⟩ = some (.int .u32 (ry.1 : Int)) ∧ W.cell? ⟨w10.heap.size, 1, none⟩ = some (.int .u32 (ry.2 : Int))) (first | exact ⟨hk11.cell c2, hk11.cell c3, hk11.cell c4, hk11.cell c0, hk11.cell c1⟩ | go_keep)
          (first | (go_at_call 21; refine (HCELL.out _ ?_).mono ?_; (repeat (first | exact KB2.out | apply Kept.drew)); rintro e w11 ⟨⟨nm, us, fl, kd, rfl⟩, hk11⟩))
        have K11 : Hid (Kept w9 w11) := Lib.hid (KB2.out.drew.trans hk11)
        rename_i hh2
        clear hh2 hk11 c0 c1 c2 c3 c4
        have HRX : Hid (∃ p : Nat, p ≤ n ∧ Value.int .i64 ((j : Int) + 1) = .int .i64 (p : Int) ∧ Kept w9 w11) := Lib.hid ⟨j + 1, by omega, by go_num, K11.out⟩
        go_wp2_with fail
        go_roundw
        case rel => first | exact HRX.out | ((repeat apply Exists.intro); exact ⟨HRX.out, rfl⟩)
        case measure => simp [intOf]; omega
    · obtain rfl : j = n := by omega
      have HKR := Lib.hid hkr
      clear hkr
      go_wp2_with fail
      go_ret
      exact ⟨rfl, K9.out.trans HKR.out⟩

theorem walk (a0 : Option Addr) (len0 cap0 : Nat) (z0 : List Int) (a1 : Option Addr) (len1 cap1 : Nat) (z1 : List Int) (w : World) (w0 : IsRow .u16 w a0 len0 cap0 z0) (w1 : IsRow .i32 w a1 len1 cap1 z1)
    (hi0 : w.cell? ⟨0, 0, none⟩ = some (.int .u32 4294967295)) (hi1 : w.cell? ⟨0, 1, none⟩ = some (.int .u32 4294967295)) :
    Calls Tryd.prog 4 #[.slice a0 len0 cap0, .slice a1 len1 cap1] w fun e w' => e = .returned (.bool true) ∧ Below w.heap.size w w' := by
  have hm0 : len0 ≤ 9223372036854775807 := by
    rcases w0 with ⟨rfl, rfl, rfl, rfl⟩ | ⟨x, rfl, hl, hm, hz, hc, hw⟩
    · omega
    · unfold maxLen at hm; omega
  have hm1 : len1 ≤ 9223372036854775807 := by
    rcases w1 with ⟨rfl, rfl, rfl, rfl⟩ | ⟨x, rfl, hl, hm, hz, hc, hw⟩
    · omega
    · unfold maxLen at hm; omega
  have H0 : Hid (Row w a0 len0 cap0 ((z0.take len0).map (Value.int .u16))) := by
    rcases w0 with ⟨rfl, rfl, rfl, rfl⟩ | ⟨x, rfl, hl, hm, hz, hc, hw⟩
    · exact Lib.hid (Row.nil w)
    · exact Lib.hid (Row.of_cells hl hm hz hc)
  have H1 : Hid (Row w a1 len1 cap1 ((z1.take len1).map (Value.int .i32))) := by
    rcases w1 with ⟨rfl, rfl, rfl, rfl⟩ | ⟨x, rfl, hl, hm, hz, hc, hw⟩
    · exact Lib.hid (Row.nil w)
    · exact Lib.hid (Row.of_cells hl hm hz hc)
  have HZ : Hid (∀ j, j < len0 → 0 ≤ (z0.take len0).getD j 0 ∧ (z0.take len0).getD j 0 ≤ 65535) := by
    refine Lib.hid (fun j hj => getD_mem2 (P := fun x => 0 ≤ x ∧ x ≤ 65535) (fun x hx => ?_) (by have := H0.out.1; simp only [List.length_map] at this; omega))
    rcases w0 with ⟨rfl, rfl, rfl, rfl⟩ | ⟨y, rfl, hl, hm, hz, hc, hw⟩
    · simp at hx
    · exact wf16 (hw x (List.mem_of_mem_take hx))
  have HL : Hid (∀ j, j < len1 → -2147483648 ≤ (z1.take len1).getD j 0 ∧ (z1.take len1).getD j 0 ≤ 2147483647) := by
    refine Lib.hid (fun j hj => getD_mem2 (P := fun x => -2147483648 ≤ x ∧ x ≤ 2147483647) (fun x hx => ?_) (by have := H1.out.1; simp only [List.length_map] at this; omega))
    rcases w1 with ⟨rfl, rfl, rfl, rfl⟩ | ⟨y, rfl, hl, hm, hz, hc, hw⟩
    · simp at hx
    · exact wfi32 (hw x (List.mem_of_mem_take hx))
  have HI : Hid (Inv w) := Lib.hid ⟨hi0, hi1⟩
  clear w0 w1 hi0 hi1
  by_cases c0 : len0 + len1 ≤ 1048576
  · have HBY := Lib.hid (bytes22_ok a0 len0 cap0 a1 len1 cap1 w (by omega))
    by_cases cs : 1048576 < 2 * len0 + 4 * len1
    · go_enter Tryd.func4, Tryd.ntmps4
      go_wp2_with fail
      refine HBY.out.mono ?_
      rintro e w' ⟨rfl, rfl⟩
      go_wp2_with fail
      go_ret
      exact ⟨rfl, Below.refl _ _⟩
    by_cases c1 : 4096 < len0
    · go_enter Tryd.func4, Tryd.ntmps4
      go_wp2_with fail
      refine HBY.out.mono ?_
      rintro e w' ⟨rfl, rfl⟩
      go_wp2_with fail
      go_ret
      exact ⟨rfl, Below.refl _ _⟩
    by_cases c2 : 4096 < len1
    · go_enter Tryd.func4, Tryd.ntmps4
      go_wp2_with fail
      refine HBY.out.mono ?_
      rintro e w' ⟨rfl, rfl⟩
      go_wp2_with fail
      go_ret
      exact ⟨rfl, Below.refl _ _⟩
    by_cases c3 : len1 = 0
    · subst c3
      have C0 := Lib.hid (clone16.run a0 len0 cap0 _ w H0.out (by omega))
      go_enter Tryd.func4, Tryd.ntmps4
      go_wp2_with fail
      refine HBY.out.mono ?_
      rintro e w' ⟨rfl, rfl⟩
      go_wp2_with fail
      refine C0.out.mono ?_
      rintro e w1 ⟨p0, rfl, o0, _, k1⟩
      have K1 := Lib.hid k1
      have C1 := Lib.hid (cloneI32.run a1 0 cap1 _ w1 (H1.out.kept k1) (by omega))
      clear o0 k1 C0 HBY H1
      go_wp2_with fail
      refine C1.out.mono ?_
      rintro e w2 ⟨p1, rfl, o1, _, k2⟩
      have K2 := Lib.hid k2
      clear o1 k2 C1
      go_wp2_with fail
      go_ret
      exact ⟨rfl, K1.out.trans K2.out⟩
    · exact main a0 len0 cap0 _ a1 len1 cap1 _ w H0.out H1.out HZ.out HL.out (by omega) (by omega) (by omega) HI.out
  · have HBY := Lib.hid (bytes22_no a0 len0 cap0 a1 len1 cap1 w c0 hm0 hm1)
    go_enter Tryd.func4, Tryd.ntmps4
    go_wp2_with fail
    refine HBY.out.mono ?_
    rintro e w' ⟨rfl, rfl⟩
    go_wp2_with fail
    go_ret
    exact ⟨rfl, Below.refl _ _⟩
end Go.Proofs.YticcbjgjjmmbcaaDoor.fnFollowAllSymbolsFlattens
