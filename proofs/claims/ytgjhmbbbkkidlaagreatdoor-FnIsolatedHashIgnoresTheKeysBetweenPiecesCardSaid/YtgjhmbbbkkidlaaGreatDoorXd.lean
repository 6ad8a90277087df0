/-
  A chunk is given its pieces.
  Conditions: the rows are readable.
-/
import Derived.LoopTactic
import Derived.StillTailTactics
import Derived.Deep.MidRow
import Derived.Laws.Tables
import Derived.Test.YtgjhmbbbkkidlaaGreatDoorXb
namespace Go.Proofs.YtgjhmbbbkkidlaaGreatDoor.hash
open Go.ChangeShapes Go.WideShapes Go.ChangeAt Go.RowKit
open Go.Proofs.YtgjhmbbbkkidlaaGreatDoor.kit
theorem turn_setCells {w : World} {b : Nat} {S : Nat → Prop} (hs : S b) : ∀ (vs : List Value) (o : Nat) (w1 : World), Turn w w1 S → Turn w (w1.setCells b o vs) S := by
  intro vs
  induction vs with
  | nil => intro o w1 h; exact h
  | cons v r ih => intro o w1 h; exact ih (o + 1) _ (h.set (p := ⟨b, o, none⟩) hs v)
/-- the pieces of one chunk -/
def Pcs (n : Nat) (cs pcs : List Value) (xs ys : List Int) (k : Nat) : Prop := ∀ j, j < k → pcs[j * 3]? = cs[j]? ∧ pcs[j * 3 + 1]? = some (.int .u32 (xs.getD j 0)) ∧ pcs[j * 3 + 2]? = some (.int .u8 (ys.getD j 0))
theorem Pcs.step {n k : Nat} {cs pcs pcs2 : List Value} {xs ys : List Int} {v : Value} (h : Pcs n cs pcs xs ys k) (hv : cs[k]? = some v)
    (ha : ∀ i, i < k * 3 ∨ k * 3 + 3 ≤ i → pcs2[i]? = pcs[i]?) (hb : ∀ i, i < 3 → pcs2[k * 3 + i]? = [v, .int .u32 (xs.getD k 0), .int .u8 (ys.getD k 0)][i]?) : Pcs n cs pcs2 xs ys (k + 1) := by
  intro j hj
  by_cases e : j = k
  · subst e
    refine ⟨?_, ?_, ?_⟩
    · have := hb 0 (by omega)
      rw [Nat.add_zero] at this
      rw [this, hv]
      rfl
    · exact hb 1 (by omega)
    · exact hb 2 (by omega)
  · obtain ⟨h1, h2, h3⟩ := h j (by omega)
    exact ⟨(ha _ (by omega)).trans h1, (ha _ (by omega)).trans h2, (ha _ (by omega)).trans h3⟩
/-- what the call leaves -/
def Laid (w w' : World) (cb ci n : Nat) (ccs cs : List Value) (xs ys : List Int) : Prop := ∃ pb pcs ccs2, w.heap.size ≤ pb ∧ Blk w' pb 127 pcs ∧ pcs.length = n * 3 ∧ Pcs n cs pcs xs ys n ∧
  Blk w' cb 146 ccs2 ∧ ccs2.length = 44 ∧ ccs2[ci * 22 + 13]? = some (.slice (some ⟨pb, 0, none⟩) n n) ∧ (∀ o, o < ci * 22 + 13 ∨ ci * 22 + 18 ≤ o → ccs2[o]? = ccs[o]?) ∧ Turn w w' (· = cb)
theorem built127 (a : Option Addr) (l c : Nat) (x y : Int) : Tryz.prog.built 127 [(0, .slice a l c), (1, .int .u32 x), (2, .int .u8 y)] = some #[.slice a l c, .int .u32 x, .int .u8 y] := by kernel_rfl
theorem size127 : (Tryz.prog.info? 127).map (·.size) = some 3 := by kernel_rfl
theorem size133 : (Tryz.prog.info? 133).map (·.size) = some 5 := by kernel_rfl
theorem built133 (a : Option Addr) (l c : Nat) : Tryz.prog.built 133 [(0, .slice a l c)] = some #[.slice a l c, .slice none 0 0, .slice none 0 0, .int .u32 0, .int .u8 0] := by kernel_rfl
set_option maxRecDepth 100000 in
set_option maxHeartbeats 4000000 in
theorem laid_calls (ci : Nat) (hci : ci < 2) (lb cb g n c1 c2 : Nat) (lcs ccs cs : List Value) (A1 A2 : Option Addr) (xs ys : List Int) (w : World)
    (hl : Blk w lb 123 lcs) (h17 : lcs[17]? = some (.slice (some ⟨cb, 0, none⟩) 2 2)) (hc : Blk w cb 146 ccs) (hcl : ccs.length = 44)
    (hg : Blk w g 24 cs) (hgl : cs.length = n) (hgv : ∀ j, j < n → ∃ a l c, cs[j]? = some (.slice a l c)) (h1 : Row w A1 n c1 (xs.map (Value.int .u32))) (h2 : Row w A2 n c2 (ys.map (Value.int .u8))) (hn : n ≤ 1048576) :
    Calls Tryz.prog 11 #[.pointer (some ⟨lb, 0, none⟩), .int .i64 (ci : Int), .slice (some ⟨g, 0, none⟩) n n, .slice A1 n c1, .slice A2 n c2] w fun e w' => (∃ v, e = .returned v) ∧ Laid w w' cb ci n ccs cs xs ys := by
  obtain ⟨C, hC, _, _, hmk⟩ := makeN1 (T := 124) (E := 127) (size := 3) (bytes := 32) Tryz.underlying124 (by kernel_rfl) (by kernel_rfl) n (by omega) (by omega)
  have rb : ∀ (a : Option Addr) (l c : Nat) (x y : Int) (W : World), (Instr.build 127 #[(0, .slice a l c), (1, .int .u32 x), (2, .int .u8 y)]).run Tryz.prog W = .ok (.agg #[.slice a l c, .int .u32 x, .int .u8 y]) W := fun a l c x y W => run_build W 127 _ _ (built127 a l c x y)
  have HL := Lib.hid hl
  have HC := Lib.hid hc
  have HG := Lib.hid hg
  have H1 := Lib.hid h1
  have H2 := Lib.hid h2
  have HGV := Lib.hid hgv
  have HB0 : Hid (Blk (w.alloc (.cells C.toArray 127)) w.heap.size 127 C) := Lib.hid (Blk.new w 127 C)
  have HCI := Lib.hid hci
  have hx : xs.length = n := by simpa using h1.1
  have hy : ys.length = n := by simpa using h2.1
  have HX := Lib.hid hx
  have HY := Lib.hid hy
  have hcw : cb < w.heap.size := hc.lt
  have hlw : lb < w.heap.size := hl.lt
  have hgw : g < w.heap.size := hg.lt
  have HH17 := Lib.hid h17
  have HCL := Lib.hid hcl
  have HGL := Lib.hid hgl
  clear hl hc hg h1 h2 hgv hx hy h17 hcl hgl hci
  go_enter Tryz.func11, Tryz.ntmps11
  go_wp2
  have hk0 : Kept w (w.alloc (.cells C.toArray 127)) := (Kept.refl _).alloc _
  generalize hpb : w.heap.size = pb at *
  generalize w.alloc (.cells C.toArray 127) = w1 at *
  go_loopw [17] (fun t17 wr => ∃ (k : Nat) (pcs : List Value), k ≤ n ∧ t17 = .int .i64 (k : Int) ∧ pcs.length = n * 3 ∧ Hid (Blk wr pb 127 pcs) ∧ Kept w wr ∧ Hid (Pcs n cs pcs xs ys k)) (fun t _ => n - natOf t)
  case atStart => exact ⟨0, C, Nat.zero_le _, rfl, hC, HB0, hk0, Lib.hid fun j hj => absurd hj (by omega)⟩
  case round =>
    obtain ⟨k, pcs, hk, rfl, hpl, HB, hkept, HJ⟩ := hrel
    by_cases hlt : k < n
    · obtain ⟨a, l, c, hv⟩ := HGV.out k hlt
      have cg : wr.cell? ⟨g, k, none⟩ = some (.slice a l c) := ((HG.out.kept hkept).cell k).trans hv
      obtain ⟨b1, o1, e1, _, q1⟩ := (H1.out.kept hkept).at_ 0 hlt
      obtain ⟨b2, o2, e2, _, q2⟩ := (H2.out.kept hkept).at_ 0 hlt
      subst e1 e2
      have HV := Lib.hid hv
      clear hv
      generalize hxx : xs.getD k 0 = x at *
      generalize hyy : ys.getD k 0 = y at *
      have HXX := Lib.hid hxx
      have HYY := Lib.hid hyy
      clear hxx hyy
      go_wp2_with fail
      have HTH : Hid (wr.drew.there pb (k * 3) (#[.slice a l c, .int .u32 x, .int .u8 y] : Array Value).size) := Lib.hid (HB.out.drew.there (by rw [hpl]; simp; omega))
      have HSZ : Hid ((Tryz.prog.info? 127).map (·.size) = some (#[.slice a l c, .int .u32 x, .int .u8 y] : Array Value).size) := Lib.hid size127
      have HON : Hid ((#[.slice a l c, .int .u32 x, .int .u8 y] : Array Value).all (·.oneCell') = true) := Lib.hid (by simp [Value.oneCell'])
      go_still_tail 16, (by kernel_rfl)
      change wpList _ _ _ _ _ wr.drew
      with_reducible refine wpList_store_mid rfl 127 (.tmp 35) (.tmp 34) rfl pb (k * 3) #[.slice a l c, .int .u32 x, .int .u8 y] rfl rfl HTH.out HSZ.out HON.out ?_
      obtain ⟨pcs2, hb2, hl2, ha, hbb⟩ := Blk.setCells [.slice a l c, .int .u32 x, .int .u8 y] (k * 3) wr.drew pcs HB.out.drew (by rw [hpl]; simp; omega)
      have HB2 := Lib.hid hb2
      have HP2 : Hid (Pcs n cs pcs2 xs ys (k + 1)) := Lib.hid (HJ.out.step HV.out (fun i hi => ha i (by simpa using hi)) (fun i hi => by rw [HXX.out, HYY.out]; exact hbb i (by simpa using hi)))
      have hk2 : Kept w (wr.drew.setCells pb (k * 3) [.slice a l c, .int .u32 x, .int .u8 y]) := Kept.setCells _ _ _ hkept.drew (Nat.le_of_eq hpb)
      clear hb2 ha hbb
      change wpList _ _ _ _ _ (wr.drew.setCells pb (k * 3) [.slice a l c, .int .u32 x, .int .u8 y])
      generalize wr.drew.setCells pb (k * 3) [.slice a l c, .int .u32 x, .int .u8 y] = w3 at *
      go_wp2
      refine ⟨⟨k + 1, pcs2, by omega, by rw [Int.natCast_add]; rfl, hl2.trans hpl, HB2, hk2, HP2⟩, ?_⟩
      simp only [natOf]
      omega
    · obtain rfl : k = n := by omega
      have c17 : wr.cell? ⟨lb, 17, none⟩ = some (.slice (some ⟨cb, 0, none⟩) 2 2) := ((HL.out.kept hkept).cell 17).trans HH17.out
      have hci := HCI.out
      have rb2 : ∀ W : World, (Instr.build 133 #[(0, .slice (some ⟨pb, 0, none⟩) k k)]).run Tryz.prog W = .ok (.agg #[.slice (some ⟨pb, 0, none⟩) k k, .slice none 0 0, .slice none 0 0, .int .u32 0, .int .u8 0]) W := fun W => run_build W 133 _ _ (built133 _ _ _)
      have hCk := HC.out.kept hkept
      have HTH : Hid (wr.there cb (ci * 22 + 13) (#[.slice (some ⟨pb, 0, none⟩) k k, .slice none 0 0, .slice none 0 0, .int .u32 0, .int .u8 0] : Array Value).size) := Lib.hid (hCk.there (by rw [HCL.out]; simp; omega))
      have HSZ : Hid ((Tryz.prog.info? 133).map (·.size) = some (#[.slice (some ⟨pb, 0, none⟩) k k, .slice none 0 0, .slice none 0 0, .int .u32 0, .int .u8 0] : Array Value).size) := Lib.hid size133
      have HON : Hid ((#[.slice (some ⟨pb, 0, none⟩) k k, .slice none 0 0, .slice none 0 0, .int .u32 0, .int .u8 0] : Array Value).all (·.oneCell') = true) := Lib.hid (by simp [Value.oneCell'])
      go_wp2_with (with_reducible refine wpList_store_mid rfl 133 (.tmp 45) (.tmp 43) rfl cb (ci * 22 + 13) #[.slice (some ⟨pb, 0, none⟩) k k, .slice none 0 0, .slice none 0 0, .int .u32 0, .int .u8 0] rfl rfl HTH.out HSZ.out HON.out ?_)
      go_end0
      obtain ⟨cc2, hb2, hl2, ha, hbb⟩ := Blk.setCells [.slice (some ⟨pb, 0, none⟩) k k, .slice none 0 0, .slice none 0 0, .int .u32 0, .int .u8 0] (ci * 22 + 13) wr ccs hCk (by rw [HCL.out]; simp; omega)
      refine ⟨⟨_, rfl⟩, pb, pcs, cc2, Nat.le_of_eq hpb, Blk.setCellsFar (by omega) _ _ _ _ HB.out, hpl, HJ.out, hb2, hl2.trans HCL.out, ?_, fun o ho => ha o (by simpa using ho), turn_setCells (S := (· = cb)) rfl _ _ _ (Turn.of_kept hkept _)⟩
      have := hbb 0 (by simp)
      rw [Nat.add_zero] at this
      rw [this]
      rfl
end Go.Proofs.YtgjhmbbbkkidlaaGreatDoor.hash
