/-
  FnDotThenPairRestoresIndentAndBalances over this seat's program: the whole walk.
  Conditions: none.
-/
import Derived.Test.YtdpljbhbnlcoaaaDx8
namespace Go.Proofs.Ytdpljbhbnlcoaaa.dx
open Go.ChangeShapes Go.WideShapes Go.ChangeAt Go.RowKit
open kit pr

theorem bytes13 (s1 s2 : ByteArray) (b1 b2 : Bool) (k : Int) (w : World) (h1 : s1.size ≤ 9223372036854775807) (h2 : s2.size ≤ 9223372036854775807) :
    Calls Try.prog 13 #[.string s1, .string s2, .bool b1, .bool b2, .int .i64 k] w fun e w' => (∃ b, e = .returned (.bool b)) ∧ w = w' := by
  go_enter Try.func13, Try.ntmps13
  go_wp2
  all_goals
    go_ret
    exact ⟨⟨_, rfl⟩, rfl⟩
theorem suf_pos (na mw : Bool) (m : Nat) : 0 < (sufL na mw m).length := by cases na <;> simp [sufL] <;> omega
/-- the first k bytes, as cells -/
def tkV (zs : List Int) (k : Nat) : List Value := (zs.take k).map (Value.int .u8)
theorem takeU {zs : List Int} {k : Nat} (h : k < zs.length) : tkV zs k ++ [.int .u8 (zs.getD k 0)] = tkV zs (k + 1) := by
  unfold tkV
  have e : zs.getD k 0 = zs[k] := by simp [h]
  rw [e, List.take_succ_eq_append_getElem h, List.map_append]
  rfl
def CP (w0 : World) (r L : Nat) (PZ : List Int) (lo hi k0 : Nat) (t14 t15 : Value) (W : World) : Prop :=
  ∃ i K : Nat, lo ≤ i ∧ i ≤ hi ∧ K = k0 + (i - lo) ∧ t15 = .int .i64 (i : Int) ∧ t14 = .slice (some ⟨r, 0, none⟩) K L ∧ Hid (W.ownsRow r 5 1 (.slice (some ⟨r, 0, none⟩) K L) K (tkV PZ K) ∧ Kept w0 W)

set_option maxRecDepth 100000 in
set_option maxHeartbeats 16000000 in
theorem main (s1 s2 : ByteArray) (na mw : Bool) (ind : Int) (w : World) (z1 : s1.size ≤ 9223372036854775807) (z2 : s2.size ≤ 9223372036854775807) :
    Calls Try.prog 4 #[.string s1, .string s2, .bool na, .bool mw, .int .i64 ind] w fun e w' => e = .returned (.bool true) ∧ Below w.heap.size w w' := by
  have HBY := Lib.hid (bytes13 s1 s2 na mw ind w z1 z2)
  by_cases x0 : 65536 < s1.size
  · go_enter Try.func4, Try.ntmps4
    go_wp2_with fail
    refine HBY.out.mono ?_
    rintro e w' ⟨⟨b, rfl⟩, rfl⟩
    cases b
    · go_wp2_with fail
      go_ret
      exact ⟨rfl, Below.refl _ _⟩
    · go_wp2_with fail
      go_ret
      exact ⟨rfl, Below.refl _ _⟩
  by_cases x1 : 65536 < s2.size
  · go_enter Try.func4, Try.ntmps4
    go_wp2_with fail
    refine HBY.out.mono ?_
    rintro e w' ⟨⟨b, rfl⟩, rfl⟩
    cases b
    · go_wp2_with fail
      go_ret
      exact ⟨rfl, Below.refl _ _⟩
    · go_wp2_with fail
      go_ret
      exact ⟨rfl, Below.refl _ _⟩
  by_cases x2 : ind < 0
  · go_enter Try.func4, Try.ntmps4
    go_wp2_with fail
    refine HBY.out.mono ?_
    rintro e w' ⟨⟨b, rfl⟩, rfl⟩
    cases b
    · go_wp2_with fail
      go_ret
      exact ⟨rfl, Below.refl _ _⟩
    · go_wp2_with fail
      go_ret
      exact ⟨rfl, Below.refl _ _⟩
  by_cases x3 : 65536 < ind
  · go_enter Try.func4, Try.ntmps4
    go_wp2_with fail
    refine HBY.out.mono ?_
    rintro e w' ⟨⟨b, rfl⟩, rfl⟩
    cases b
    · go_wp2_with fail
      go_ret
      exact ⟨rfl, Below.refl _ _⟩
    · go_wp2_with fail
      go_ret
      exact ⟨rfl, Below.refl _ _⟩
  obtain ⟨m, rfl⟩ : ∃ m : Nat, ind = (m : Int) := ⟨ind.toNat, by omega⟩
  have HN := Lib.hid (newQ w s1 na mw (m : Int) (by omega))
  have hm : m ≤ 65536 := by omega
  have LP : Hid ((bytesOf s1).length = s1.size) := Lib.hid (bytesOf_length s1)
  have LI : Hid ((bytesOf s2).length = s2.size) := Lib.hid (bytesOf_length s2)
  have LA := Lib.hid (len_pre na mw m)
  have LZ := Lib.hid (len_suf na mw m)
  have HBAL := Lib.hid (bal_pair na mw m)
  have HSP := Lib.hid (suf_pos na mw m)
  have HPOS := Lib.hid (pair_pos na mw m)
  have HTT : Hid (mw = true → ∀ c ∈ preL na mw m ++ sufL na mw m, c ≠ 32 ∧ c ≠ 10) := Lib.hid (fun h => by subst h; exact tight na m)
  clear z1 z2
  go_enter Try.func4, Try.ntmps4
  go_wp2_with fail
  refine HBY.out.mono ?_
  rintro e w' ⟨⟨b, rfl⟩, rfl⟩
  cases b
  · go_wp2_with fail
    go_ret
    exact ⟨rfl, Below.refl _ _⟩
  clear HBY
  go_wp2_with fail
  refine HN.out.mono ?_
  rintro e w1 ⟨g, rfl, q1⟩
  have HP := Lib.hid (zzprefix na w w1 g mw m (bytesOf s1) q1 hm (by have := LP.out; omega))
  clear q1 HN
  go_wp2_with fail
  refine HP.out.mono ?_
  rintro e w2 ⟨⟨xv, rfl⟩, q2⟩
  have HJ := Lib.hid (zzjs na w w2 g mw _ (bytesOf s1 ++ preL na mw m) q2)
  have HQ2 := Lib.hid q2
  clear q2 HP
  generalize hmid : (bytesOf s1 ++ preL na mw m).length = mid at *
  have HMID := Lib.hid hmid
  clear hmid
  go_wp2_with fail
  refine HJ.out.mono ?_
  rintro e w' ⟨⟨qq, cc, rfl, _, _⟩, rfl⟩
  have HPR := Lib.hid (zzprint na w w2 g mw _ (bytesOf s1 ++ preL na mw m) s2 HQ2.out (by have h1 := LP.out; have h2 := LA.out; rw [List.length_append]; omega))
  clear HJ
  go_wp2_with fail
  refine HPR.out.mono ?_
  rintro e w3 ⟨rfl, q3⟩
  have HSU := Lib.hid (zzsuffix na w w3 g mw m (bytesOf s1 ++ preL na mw m ++ bytesOf s2) q3 hm (by have h1 := LP.out; have h2 := LA.out; have h3 := LI.out; simp only [List.length_append]; omega))
  clear q3 HPR HQ2
  go_wp2_with fail
  refine HSU.out.mono ?_
  rintro e w4 ⟨rfl, q4⟩
  have HJ2 := Lib.hid (zzjs na w w4 g mw _ _ q4)
  have HI2 := Lib.hid (zzindent na w w4 g mw _ _ q4)
  have HKW : Hid (Kept w w4) := Lib.hid q4.be
  clear q4 HSU
  generalize hP : bytesOf s1 = P at *
  generalize hI : bytesOf s2 = I at *
  generalize hA : preL na mw m = A at *
  generalize hZ : sufL na mw m = Z at *
  have EP := Lib.hid hP
  have EI := Lib.hid hI
  clear hP hI hA hZ
  generalize hL : (P ++ A ++ I ++ Z).length = L at *
  have HL := Lib.hid hL
  clear hL
  obtain ⟨a, ha⟩ : ∃ a, A.length = a := ⟨_, rfl⟩
  obtain ⟨z, hz⟩ : ∃ z, Z.length = z := ⟨_, rfl⟩
  have HA := Lib.hid ha
  have HZ := Lib.hid hz
  clear ha hz
  generalize hp : s1.size = p at *
  generalize hii : s2.size = ii at *
  have emid : p ≤ mid ∧ mid ≤ p + a ∧ p + a ≤ mid := by have h1 := HMID.out; have h2 := LP.out; have h3 := HA.out; rw [List.length_append] at h1; omega
  have eL : mid + ii + z ≤ L ∧ L ≤ mid + ii + z := by have h1 := HL.out; have h2 := LP.out; have h3 := LI.out; have h4 := HA.out; have h5 := HZ.out; have h6 := HMID.out; simp only [List.length_append] at h1 h6; omega
  have ea : a ≤ 131112 ∧ z ≤ 131112 := by have h1 := LA.out; have h2 := LZ.out; have h3 := HA.out; have h4 := HZ.out; omega
  obtain ⟨em1, em2, em3⟩ := emid
  obtain ⟨eL1, eL2⟩ := eL
  obtain ⟨ea1, ea2⟩ := ea
  go_wp2_with fail
  refine HJ2.out.mono ?_
  rintro e w' ⟨⟨q, c, rfl, ho, hq⟩, rfl⟩
  have HO := Lib.hid ho
  have hcL : L ≤ c := by have := ho.le; have h := HL.out; omega
  clear ho hq HJ2
  go_wp2_with fail
  refine HI2.out.mono ?_
  rintro e w' ⟨rfl, rfl⟩
  clear HI2
  have S1 := Lib.hid (sameT q 0 c s1 w4 (fun j hj => by
    have hPL := LP.out
    have hj2 : j < P.length := by omega
    have e := HO.out.bytes j (by simp only [List.length_append]; omega)
    have e2 : (P ++ A ++ I ++ Z).getD j 0 = P.getD j 0 := by
      simp only [List.getD_eq_getElem?_getD, List.append_assoc]
      rw [List.getElem?_append_left hj2]
    rw [Nat.zero_add, EP.out, ← e2]
    exact e) (by omega))
  rw [hp] at S1
  have hmc : mid + ii ≤ c := by omega
  have hmc2 : mid < c := by have h1 := HSP.out; have h2 := HZ.out; omega
  have hmc3 : ¬ (c - mid = 0) := by omega
  go_wp2_with fail
  refine S1.out.mono ?_
  rintro e w5 ⟨rfl, k5⟩
  have HO5 := Lib.hid (HO.out.same (k5.block q HO.out.lt))
  have HK5 := Lib.hid (HKW.out.trans k5)
  have S2 := Lib.hid (sameT q mid (c - mid) s2 w5 (fun j hj => by
    have hIL := LI.out
    have hj2 : j < I.length := by omega
    have hM := HMID.out
    have e := HO5.out.bytes (mid + j) (by simp only [List.length_append] at hM ⊢; omega)
    have e2 := getD_mid (P := P ++ A) (X := I) (Y := Z) (j := j) hj2
    rw [hM] at e2
    rw [EI.out, ← e2]
    exact e) (by omega))
  rw [hii] at S2
  obtain ⟨cur, hcur, hmk⟩ := make0 (T := 22) (E := 5) Try.underlying22 info5 L (L : Int) rfl (by omega) (by unfold maxLen; omega)
  obtain ⟨i0, hi, hz0, hz1, hz2⟩ := info_parts info5
  have HCUR := Lib.hid hcur
  clear k5 S1 HO HKW hcur hz0 hz2
  go_wp2_with fail
  refine S2.out.mono ?_
  rintro e w9 ⟨rfl, k9⟩
  have HO9 := Lib.hid (HO5.out.same (k9.block q HO5.out.lt))
  have KW9 := Lib.hid (HK5.out.trans k9)
  clear k9 S2 HO5 HK5
  obtain ⟨PZ, hPZ⟩ : ∃ PZ, PZ = A ++ Z := ⟨_, rfl⟩
  have HPZE := Lib.hid hPZ
  have HPZ : Hid (PZ.length = a + z) := Lib.hid (by rw [hPZ, List.length_append, HA.out, HZ.out])
  rw [← hPZ] at HBAL HPOS HTT
  clear hPZ
  obtain ⟨r, hr⟩ : ∃ r, w9.heap.size = r := ⟨_, rfl⟩
  have HRQ : Hid (w9.heap.size ≤ r) := Lib.hid (by omega)
  have HST : Hid (CP w9 r L PZ p mid 0 (.slice (some ⟨r, 0, none⟩) 0 L) (.int .i64 (p : Int)) (w9.alloc (.cells cur 5))) := Lib.hid ⟨p, 0, by omega, by omega, by omega, rfl, rfl, Lib.hid ⟨⟨by simp [tkV], Or.inr ⟨r, L, cur, rfl, Nat.le_refl _, by rw [← hr]; exact heap_alloc_new w9 _, by omega, by unfold maxLen; omega, HCUR.out, by simp [tkV]⟩⟩, (Kept.refl _).alloc _⟩⟩
  go_wp2_with fail
  go_loopw [14, 15] (fun t14 t15 W => CP w9 r L PZ p mid 0 t14 t15 W) (fun _ t15 _ => mid - (intOf t15).toNat)
  case atStart => exact HST.out
  case round =>
    obtain ⟨i, K, hlo, hhi, hK, rfl, rfl, HB⟩ := hrel
    clear HST
    by_cases hlt : i < mid
    · have hii : (i : Int) < (mid : Int) := by omega
      have hiL : (i : Int) < (L : Int) := by omega
      have hKL : K + 1 ≤ L := by omega
      have c1 : wr.cell? ⟨q, i, none⟩ = some (.int .u8 (PZ.getD K 0)) := HB.out.2.cell (by
        have hKA : K < A.length := by have := HA.out; omega
        have e := HO9.out.bytes i (by have := HL.out; omega)
        have e2 := getD_mid (P := P) (X := A) (Y := I ++ Z) (j := K) hKA
        have e3 : P ++ A ++ (I ++ Z) = P ++ A ++ I ++ Z := by simp [List.append_assoc]
        have e4 : PZ.getD K 0 = A.getD K 0 := by
          have h := HPZE.out
          rw [h]
          simp only [List.getD_eq_getElem?_getD]
          rw [List.getElem?_append_left hKA]
        have e5 : P.length + K = i := by have h := LP.out; omega
        rw [e3, e5] at e2
        rw [e4, ← e2]
        exact e)
      have HOW := Lib.hid HB.out.1
      have hqlt := own_blt HOW.out
      have HEL : Hid (tkV PZ K ++ [.int .u8 (PZ.getD K 0)] = tkV PZ (K + 1)) := Lib.hid (takeU (by have := HPZ.out; omega))
      have HKP := Lib.hid HB.out.2
      have HKE := Lib.hid hK
      clear HB hK
      generalize PZ.getD K 0 = x at *
      go_wp2_with (at_builtin; refine wpList_append_fits _ rfl _ _ 22 rfl r 5 i0 1 Try.underlying22 hi hz1 r K L (tkV PZ K) rfl (HOW.out.alloc _) ⟨wr.heap.size, 0, none⟩ 1 1 [.int .u8 x] rfl rfl (oneNews wr _ 5) (one1 _) hKL ?_)
      intro w2' hown2 hgr2
      rw [HEL.out] at hown2
      have HRR : Hid (CP w9 r L PZ p mid 0 (.slice (some ⟨r, 0, none⟩) (K + 1) L) (.int .i64 ((i : Int) + 1)) w2') := Lib.hid ⟨i + 1, K + 1, by omega, by omega, by have := HKE.out; omega, by go_num, rfl, Lib.hid ⟨hown2, keptGrown (HKP.out.alloc _) hgr2 HRQ.out⟩⟩
      clear hown2 hgr2
      go_wp2
      go_roundw
      case rel => first | exact HRR.out | ((repeat apply Exists.intro); exact ⟨HRR.out, rfl⟩)
      case measure => simp [intOf]; omega
    · obtain rfl : i = mid := by omega
      obtain ⟨T, hT⟩ : ∃ T, T = a := ⟨_, rfl⟩
      obtain rfl : K = T := by omega
      obtain ⟨M, hM⟩ : ∃ M, M = i + ii := ⟨_, rfl⟩
      have HST : Hid (CP w9 r L PZ M L a (.slice (some ⟨r, 0, none⟩) K L) (.int .i64 ((i : Int) + (ii : Int))) wr) := Lib.hid ⟨M, K, by omega, by omega, by omega, by rw [hM]; go_num, rfl, HB⟩
      clear HB
      go_wp2_with fail
      go_loopw [14, 16] (fun t14 t15 W => CP w9 r L PZ M L a t14 t15 W) (fun _ t15 _ => L - (intOf t15).toNat)
      case atStart => exact HST.out
      case round =>
        obtain ⟨i, K, hlo, hhi, hK, rfl, rfl, HB⟩ := hrel
        clear HST
        by_cases hlt : i < L
        · have hii : (i : Int) < (L : Int) := by omega
          have hiL : (i : Int) < (L : Int) := by omega
          have hKL : K + 1 ≤ L := by omega
          have c1 : wr.cell? ⟨q, i, none⟩ = some (.int .u8 (PZ.getD K 0)) := HB.out.2.cell (by
            have hKZ : K - a < Z.length := by have := HZ.out; omega
            have e := HO9.out.bytes i (by have := HL.out; omega)
            have e2 := getD_mid (P := P ++ A ++ I) (X := Z) (Y := []) (j := K - a) hKZ
            have e4 : PZ.getD K 0 = Z.getD (K - a) 0 := by
              have h := HPZE.out
              have ha := HA.out
              rw [h]
              simp only [List.getD_eq_getElem?_getD]
              rw [List.getElem?_append_right (by omega), ha]
            have e5 : (P ++ A ++ I).length + (K - a) = i := by have h1 := LP.out; have h2 := HA.out; have h3 := LI.out; simp only [List.length_append]; omega
            rw [List.append_nil, e5] at e2
            rw [e4, ← e2]
            exact e)
          have HOW := Lib.hid HB.out.1
          have hqlt := own_blt HOW.out
          have HEL : Hid (tkV PZ K ++ [.int .u8 (PZ.getD K 0)] = tkV PZ (K + 1)) := Lib.hid (takeU (by have := HPZ.out; omega))
          have HKP := Lib.hid HB.out.2
          have HKE := Lib.hid hK
          clear HB hK
          generalize PZ.getD K 0 = x at *
          go_wp2_with (at_builtin; refine wpList_append_fits _ rfl _ _ 22 rfl r 5 i0 1 Try.underlying22 hi hz1 r K L (tkV PZ K) rfl (HOW.out.alloc _) ⟨wr.heap.size, 0, none⟩ 1 1 [.int .u8 x] rfl rfl (oneNews wr _ 5) (one1 _) hKL ?_)
          intro w2' hown2 hgr2
          rw [HEL.out] at hown2
          have HRR : Hid (CP w9 r L PZ M L a (.slice (some ⟨r, 0, none⟩) (K + 1) L) (.int .i64 ((i : Int) + 1)) w2') := Lib.hid ⟨i + 1, K + 1, by omega, by omega, by have := HKE.out; omega, by go_num, rfl, Lib.hid ⟨hown2, keptGrown (HKP.out.alloc _) hgr2 HRQ.out⟩⟩
          clear hown2 hgr2
          go_wp2
          go_roundw
          case rel => first | exact HRR.out | ((repeat apply Exists.intro); exact ⟨HRR.out, rfl⟩)
          case measure => simp [intOf]; omega
        · obtain rfl : L = i := by omega
          obtain ⟨T, hT⟩ : ∃ T, T = a + z := ⟨_, rfl⟩
          obtain rfl : K = T := by omega
          have HOW := Lib.hid HB.out.1
          have HKP := Lib.hid HB.out.2
          have ePZ : tkV PZ K = PZ.map (Value.int .u8) := by unfold tkV; rw [List.take_of_length_le (by have := HPZ.out; omega)]
          have HOW2 : Hid (wr.ownsRow r 5 1 (.slice (some ⟨r, 0, none⟩) K L) K (PZ.map (Value.int .u8))) := Lib.hid (by have h := HOW.out; rw [ePZ] at h; exact h)
          have HCE : Hid (∀ j, j < K → wr.cell? ⟨r, 0 + j, none⟩ = some (.int .u8 (PZ.getD j 0))) := Lib.hid (fun j hj => by
            have hj2 : j < PZ.length := by have := HPZ.out; omega
            have e := HOW2.out.cells (g := r) rfl j (.int .u8 (PZ.getD j 0)) (by simp [hj2])
            rw [Addr.add_lit] at e
            exact e)
          have hKL : PZ.length = K := by have := HPZ.out; omega
          have BA := Lib.hid (balC r 0 L PZ K wr hKL HCE.out HBAL.out (by omega))
          have HKL := Lib.hid hKL
          have hpos : 0 < K := by have := HPOS.out; omega
          have hK20 : (K : Int) ≤ 300000 := by omega
          have haz : ((K : Int) == 0) = false := by simp; omega
          have KE : Hid (Kept w wr) := Lib.hid (KW9.out.trans HKP.out)
          clear HB HOW HOW2 ePZ hT hKL hK
          go_wp2_with fail
          refine BA.out.mono ?_
          rintro e w10 ⟨rfl, k10⟩
          have KF := Lib.hid (KE.out.trans k10)
          have HCF : Hid (∀ j, j < K → w10.cell? ⟨r, 0 + j, none⟩ = some (.int .u8 (PZ.getD j 0))) := Lib.hid (fun j hj => k10.cell (HCE.out j hj))
          clear k10 BA HCE HKP KE
          cases hmw : mw
          · go_wp2_with fail
            go_ret
            exact ⟨rfl, KF.out⟩
          have HTI := Lib.hid (HTT.out hmw)
          subst hmw
          go_wp2_with fail
          go_loop [17] (fun t => ∃ k : Nat, k ≤ K ∧ t = .int .i64 (k : Int)) (fun t => K - (intOf t).toNat)
          case atStart => exact ⟨0, Nat.zero_le _, rfl⟩
          case round =>
            obtain ⟨k, hk, rfl⟩ := hrel
            by_cases hlt2 : k < K
            · have hki : (k : Int) < (K : Int) := by omega
              have c1 : w10.cell? ⟨r, k, none⟩ = some (.int .u8 (PZ.getD k 0)) := by have h := HCF.out k hlt2; rwa [Nat.zero_add] at h
              obtain ⟨n1, n2⟩ := HTI.out (PZ.getD k 0) (by
                have hj2 : k < PZ.length := by have := HKL.out; omega
                rw [List.getD_eq_getElem?_getD, List.getElem?_eq_getElem hj2]
                exact List.getElem_mem hj2)
              have m1 : (PZ.getD k 0 == 32) = false := by simpa using n1
              have m2 : (PZ.getD k 0 == 10) = false := by simpa using n2
              clear n1 n2
              generalize PZ.getD k 0 = x at *
              go_wp2_with fail
              go_round
              case rel => exact ⟨k + 1, by omega, by go_num⟩
              case measure => simp [intOf]; omega
            · obtain rfl : K = k := by omega
              go_wp2_with fail
              go_ret
              exact ⟨rfl, KF.out⟩
end Go.Proofs.Ytdpljbhbnlcoaaa.dx
