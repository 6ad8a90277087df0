/-
  The law's rules over this seat's program, a known at-rule's fields, and the walk down a nest of at-rules.
  Conditions: the nest is readable.
-/
import Derived.Test.YtimllpocefbcbaaWk
import Derived.Test.YtimllpocefbcbaaWork1
namespace Go.Proofs.Ytimllpocefbcbaa.wr
open Go.ChangeShapes Go.WideShapes Go.ChangeAt Go.RowKit
open kit

def Chs (w : World) (e : Ending) (w' : World) : Prop := (∃ p, e = .returned (.agg #[.iface 70 (.pointer (some p)), .int .i32 0])) ∧ Kept w w'
set_option maxRecDepth 100000 in
set_option maxHeartbeats 4000000 in
theorem charset (w : World) : Calls Try.prog 12 #[] w (Chs w) := by
  go_enter Try.func12, Try.ntmps12
  go_wp2_with fail
  exact bodyPost_ret (v := .agg #[.iface 70 (.pointer (some ⟨w.heap.size + 1, 0, none⟩)), .int .i32 0]) (by simp [results, Try.results12, go_sem]) rfl ⟨⟨_, rfl⟩, ((Kept.refl w).alloc _).alloc _⟩
def Known (w : World) (r : Value) (e : Ending) (w' : World) : Prop := e = .returned r ∧ Kept w w'
set_option maxRecDepth 100000 in
set_option maxHeartbeats 4000000 in
theorem notAt (w : World) (p : Option Addr) (l : Int) : Calls Try.prog 13 #[.agg #[.iface 70 (.pointer p), .int .i32 l]] w (Known w (.tuple #[.string ⟨#[]⟩, .slice none 0 0, .bool false])) := by
  have ta : ∀ W, Sem.run Try.prog (Instr.typeAssert (.iface 70 (.pointer p)) 41 62 true) W = .ok (.tuple #[.pointer none, .bool false]) W := fun W => by kernel_rfl
  go_enter Try.func13, Try.ntmps13
  go_wp2_with fail
  exact bodyPost_ret (v := .tuple #[.string ⟨#[]⟩, .slice none 0 0, .bool false]) (by simp [results, Try.results13, go_sem]) rfl ⟨rfl, (Kept.refl w).alloc _⟩
set_option maxRecDepth 100000 in
set_option maxHeartbeats 4000000 in
theorem isAt (w : World) (q : Nat) (l : Int) (s : ByteArray) (a : Option Addr) (n c : Nat) (hq : q < w.heap.size) (h0 : w.cell? ⟨q, 0, none⟩ = some (.string s)) (h2 : w.cell? ⟨q, 2, none⟩ = some (.slice a n c)) : Calls Try.prog 13 #[.agg #[.iface 62 (.pointer (some ⟨q, 0, none⟩)), .int .i32 l]] w (Known w (.tuple #[.string s, .slice a n c, .bool true])) := by
  have ta : ∀ W, Sem.run Try.prog (Instr.typeAssert (.iface 62 (.pointer (some ⟨q, 0, none⟩))) 41 62 true) W = .ok (.tuple #[.pointer (some ⟨q, 0, none⟩), .bool true]) W := fun W => by kernel_rfl
  go_enter Try.func13, Try.ntmps13
  go_wp2_with fail
  go_quiet (fail)
  go_wp2_with fail
  exact bodyPost_ret (v := .tuple #[.string s, .slice a n c, .bool true]) (by simp [results, Try.results13, go_sem]) rfl ⟨rfl, ((Kept.refl w).alloc _).drewN _⟩

theorem sizeR45 : (Try.prog.info? 45).map (·.size) = some 2 := by kernel_rfl
structure Rq (w W : World) (n k : Nat) : Prop where
  kept : Kept w W
  row : ∃ cs, Blk W w.heap.size 45 cs ∧ cs.length = n * 2 ∧ ∀ i, i < k → (∃ p, cs[i * 2]? = some (.iface 70 (.pointer p))) ∧ cs[i * 2 + 1]? = some (.int .i32 0)
section
variable {w W W2 : World} {n k : Nat}
theorem Rq.kept2 (h : Rq w W n k) (kk : Kept W W2) : Rq w W2 n k := by
  obtain ⟨cs, hb, r⟩ := h.row
  exact ⟨h.kept.trans kk, cs, hb.kept kk, r⟩
theorem Rq.lim (hk : k < n) : k * 2 + 2 ≤ n * 2 := by have := Nat.mul_le_mul_right 2 (show k + 1 ≤ n by omega); omega
theorem Rq.there (h : Rq w W n k) (hk : k < n) : W.there w.heap.size (k * 2) 2 := by
  obtain ⟨cs, hb, hl, _⟩ := h.row
  exact hb.there (by rw [hl]; exact Rq.lim hk)
theorem Rq.step (h : Rq w W n k) (hk : k < n) (p : Option Addr) : Rq w (W.setCells w.heap.size (k * 2) [.iface 70 (.pointer p), .int .i32 0]) n (k + 1) := by
  obtain ⟨cs, hb, hl, hc⟩ := h.row
  obtain ⟨cs2, h2, l2, a2, b2⟩ := Blk.setCells [.iface 70 (.pointer p), .int .i32 0] (k * 2) W cs hb (by rw [hl]; exact Rq.lim hk)
  refine ⟨Kept.setCells _ _ _ h.kept (Nat.le_refl _), cs2, h2, l2.trans hl, fun i hi => ?_⟩
  by_cases e : i = k
  · subst e
    exact ⟨⟨p, b2 0 (by simp)⟩, b2 1 (by simp)⟩
  · obtain ⟨⟨p0, h0⟩, h1⟩ := hc i (by omega)
    exact ⟨⟨p0, (a2 _ (by omega)).trans h0⟩, (a2 _ (by omega)).trans h1⟩
theorem Rq.fin (h : Rq w W n n) (hn : n ≤ 65536) : Ch W n [] (.slice (some ⟨w.heap.size, 0, none⟩) n n) := by
  obtain ⟨cs, hb, hl, hc⟩ := h.row
  refine ⟨_, _, rfl, Nat.le_refl _, by unfold maxLen; omega, (fun e => by cases e), fun _ => ⟨_, 0, rfl, hb.lt, fun i hi => ?_⟩⟩
  obtain ⟨⟨p, h0⟩, h1⟩ := hc i hi
  rw [Nat.zero_add]
  exact ⟨⟨p, by rw [hb.cell]; exact h0⟩, by rw [hb.cell]; exact h1⟩
end
def MadeR (w : World) (n : Nat) (e : Ending) (w' : World) : Prop := (∃ v, e = .returned v ∧ Ch w' n [] v) ∧ Kept w w'
def T8 (w : World) (n : Nat) (t4 : Value) (W : World) : Prop := ∃ k : Nat, k ≤ n ∧ t4 = .int .i64 (k : Int) ∧ Rq w W n k
set_option maxRecDepth 100000 in
set_option maxHeartbeats 4000000 in
theorem rules (w : World) (n : Nat) (hn : n ≤ 65536) : Calls Try.prog 8 #[.int .i64 (n : Int)] w (MadeR w n) := by
  obtain ⟨C, l1, _, g1, m1⟩ := makeN1 (T := 29) (E := 45) (size := 2) (bytes := 24) Try.underlying29 (by kernel_rfl) (by kernel_rfl) n (by omega) (by omega)
  have HA0 : Hid (T8 w n (.int .i64 0) (w.alloc (.cells C.toArray 45))) := Lib.hid ⟨0, Nat.zero_le _, rfl, (Kept.refl _).alloc _, C, Blk.new _ _ _, l1, fun i hi => absurd hi (by omega)⟩
  clear g1 l1
  go_enter Try.func8, Try.ntmps8
  go_wp2_with fail
  clear m1
  generalize w.alloc (.cells C.toArray 45) = wa at *
  go_loopw [4] (fun t4 W => T8 w n t4 W) (fun t4 _ => n - (intOf t4).toNat)
  case atStart => exact HA0.out
  case round =>
    obtain ⟨k, hk, rfl, hT⟩ := hrel
    have HT := Lib.hid hT
    obtain ⟨wo, rfl⟩ : ∃ wo : World, wo = wr := ⟨_, rfl⟩
    clear hT HA0
    by_cases hlt : k < n
    · have k0 : (k : Int) < (n : Int) := by omega
      go_wp2_with fail
      refine (charset wo).mono ?_
      rintro e w2 ⟨⟨p, rfl⟩, k2⟩
      have HT2 := Lib.hid (HT.out.kept2 k2)
      have HN : Hid (Rq w (w2.setCells w.heap.size (k * 2) [.iface 70 (.pointer (some p)), .int .i32 0]) n (k + 1)) := Lib.hid (HT2.out.step hlt (some p))
      have HTH : Hid (w2.there w.heap.size (k * 2) (#[.iface 70 (.pointer (some p)), .int .i32 0] : Array Value).size) := Lib.hid (HT2.out.there hlt)
      have HSZ : Hid ((Try.prog.info? 45).map (·.size) = some (#[.iface 70 (.pointer (some p)), .int .i32 0] : Array Value).size) := Lib.hid sizeR45
      have HON : Hid ((#[.iface 70 (.pointer (some p)), .int .i32 0] : Array Value).all (·.oneCell') = true) := Lib.hid (by simp [Value.oneCell'])
      clear k2
      go_wp2_with (with_reducible refine wpList_store_mid rfl 45 (.tmp 15) (.tmp 14) rfl w.heap.size (k * 2) #[.iface 70 (.pointer (some p)), .int .i32 0] rfl rfl HTH.out HSZ.out HON.out ?_)
      go_roundw
      case rel => exact ⟨k + 1, by omega, by go_num, HN.out⟩
      case measure => simp [intOf]; omega
    · obtain rfl : k = n := by omega
      have HX := Lib.hid (HT.out.fin hn)
      go_wp2_with fail
      go_ret
      exact ⟨⟨_, rfl, HX.out⟩, HT.out.kept⟩

def lenV : Value → Nat
  | .slice _ n _ => n
  | _ => 0
theorem info9 : (Try.prog.info? 9).map (fun i => (i.size, i.bytes, i.zero.map (·.cells.size))) = some (1, 16, some 1) := by kernel_rfl
def ChainR (w : World) (l : List ByteArray) (n : Nat) (e : Ending) (w' : World) : Prop := (∃ v, e = .returned (.tuple #[v, .int .i64 (n : Int)]) ∧ Wk w' w.heap.size 9 1 (fun s => [.string s]) v l) ∧ Kept w w'
def T10 (w : World) (l : List ByteArray) (n : Nat) (t4 t5 : Value) (W : World) : Prop := ∃ pre rest, l = pre ++ rest ∧ Wk W w.heap.size 9 1 (fun s => [.string s]) t4 pre ∧ Ch w n rest t5 ∧ Kept w W
set_option maxRecDepth 100000 in
set_option maxHeartbeats 4000000 in
theorem chain (w : World) (v : Value) (l : List ByteArray) (n : Nat) (h : Ch w n l v) (hl : l.length ≤ 1073741824) : Calls Try.prog 10 #[v] w (ChainR w l n) := by
  obtain ⟨i0, z0, hi, hz0, hz1, hz2, hz3⟩ := infoN info9
  have H := Lib.hid h
  clear h
  go_enter Try.func10, Try.ntmps10
  go_wp2_with fail
  go_loopw [4, 5] (fun t4 t5 W => T10 w l n t4 t5 W) (fun t4 _ _ => l.length - lenV t4)
  case atStart => exact ⟨[], l, rfl, Wk.nil _, H.out, Kept.refl _⟩
  case round =>
    obtain ⟨pre, rest, hlr, hwk, hch, hkw⟩ := hrel
    have HL := Lib.hid hlr
    have HW := Lib.hid hwk
    have HC := Lib.hid hch
    have HK := Lib.hid hkw
    obtain ⟨wo, rfl⟩ : ∃ wo : World, wo = wr := ⟨_, rfl⟩
    clear hlr hwk hch hkw H
    obtain ⟨a4, c4, e4⟩ := HW.out.1
    subst e4
    cases rest with
    | nil =>
      have HX : Hid (Wk wo w.heap.size 9 1 (fun s => [.string s]) (.slice a4 pre.length c4) l) := Lib.hid (by rw [HL.out, List.append_nil]; exact HW.out)
      have hc : Ch wo n [] _ := HC.out.kept HK.out
      obtain ⟨a5, c5, rfl, h1, h2, _⟩ := Sl.len hc
      by_cases h1n : n = 1
      · subst h1n
        obtain ⟨b, off, ea, _, ⟨p, x0⟩, x1⟩ := Sl.at_ hc (k := 0) (by omega)
        subst ea
        clear hc
        rw [Nat.zero_mul, Nat.add_zero] at x0 x1
        go_wp2_with fail
        refine (notAt wo p 0).mono ?_
        rintro e w2 ⟨rfl, k2⟩
        have HX2 := Lib.hid (HX.out.kept k2)
        have HK2 := Lib.hid (HK.out.trans k2)
        clear k2
        go_wp2_with fail
        go_ret2
        exact ⟨⟨_, rfl, HX2.out⟩, HK2.out⟩
      · have hn1 : ((n : Int) == 1) = false := by simp; omega
        clear hc
        go_wp2_with fail
        go_ret2
        exact ⟨⟨_, rfl, HX.out⟩, HK.out⟩
    | cons s rest =>
      obtain ⟨b, q, pv, v', rfl, hb, y0, y1, y2, y3, y4, y5, hc⟩ := HC.out
      have y0 := HK.out.cell y0
      have y1 := HK.out.cell y1
      have y2 := HK.out.cell y2
      have y4 := HK.out.cell y4
      obtain ⟨a6, c6, rfl, _, _⟩ := hc.form
      have HCR := Lib.hid hc
      have hsz : q < wo.heap.size := World.block_lt_of_cell? wo _ y2
      have hpl : pre.length ≤ 1073741824 := by have := congrArg List.length HL.out; rw [List.length_append] at this; omega
      have HL2 : Hid (l = (pre ++ [s]) ++ rest) := Lib.hid (by rw [HL.out]; simp)
      clear hc
      go_wp2_with fail
      refine (isAt wo q 0 s a6 _ c6 hsz y2 y4).mono ?_
      rintro e w2 ⟨rfl, k2⟩
      have HW2 := Lib.hid (HW.out.kept k2)
      have HK2 := Lib.hid (HK.out.trans k2)
      have hs2 := HK2.out.size
      have o2 := HW2.out.2
      clear k2 y0 y1 y2 y3 y4 y5
      generalize top n rest = tr at *
      go_wp2_with (at_builtin; refine wpList_append_own_at (P := Try.prog) (w := _) rfl _ _ 25 rfl w.heap.size 9 i0 z0 1 16 Try.underlying25 hi hz0 hz1 hz2 hz3 (by decide) _ _ _ rfl (o2.alloc _) ⟨w2.heap.size, 0, none⟩ 1 1 [.string s] rfl rfl (newsOf w2 _ 9) (by simp [Value.oneCell']) (by unfold maxLen; omega) (by omega) (by simp; omega) ?_; intro v9 w9 hown9 hg9 _ hat9)
      have hpu := push1 (u := s) (e := fun s => .string s) HK2.out HW2.out hown9 hg9 hat9
      have hlen : lenV v9 = pre.length + 1 := by obtain ⟨a9, c9, e⟩ := hpu.1.1; rw [e]; simp [lenV]
      have hll : l.length = pre.length + 1 + rest.length := by have := congrArg List.length HL2.out; simp at this; omega
      exact ⟨⟨pre ++ [s], rest, HL2.out, hpu.1, HCR.out, hpu.2.1⟩, by rw [hlen]; simp only [lenV]; omega⟩
end Go.Proofs.Ytimllpocefbcbaa.wr
