/-
  The digest's Write, whole; a word's four bytes.
  Conditions: the bytes are there.
-/
import Derived.StillTailTactics
import Derived.Test.YtgjhmbbbkkidlaaGreatDoorVh
namespace Go.Proofs.YtgjhmbbbkkidlaaGreatDoor.hash
open Go.ChangeShapes Go.WideShapes Go.ChangeAt Go.RowKit
open Go.Proofs.YtgjhmbbbkkidlaaGreatDoor.kit
noncomputable def wr (s : St) (l : List Int) : St :=
  if s.n + l.length < 32 then { s with tot := IntKind.u64.wrap (s.tot + l.length), mem := splice s.mem s.n l, n := s.n + l.length }
  else if s.n = 0 then rest { s with tot := IntKind.u64.wrap (s.tot + l.length) } l
  else rest (fill { s with tot := IntKind.u64.wrap (s.tot + l.length) } l) (l.drop (32 - s.n))
theorem rest_ok (s : St) (r : List Int) (h : s.mem.length = 32) : (rest s r).ok := by
  refine ⟨splice_len h 0 _ ?_, Nat.mod_lt _ (by decide)⟩
  rw [List.length_drop]
  omega
theorem wr_ok {s : St} (h : s.ok) (l : List Int) : (wr s l).ok := by
  unfold wr
  split
  · next h1 => exact ⟨splice_len h.1 _ _ (by omega), h1⟩
  · split
    · exact rest_ok _ _ h.1
    · refine rest_ok _ _ (splice_len h.1 _ _ ?_)
      have h2 := h.2
      show s.n + (l.take (32 - s.n)).length ≤ 32
      rw [List.length_take]
      omega
theorem write_calls {d cap : Nat} {A : Option Addr} {l : List Int} {w : World} {s : St} (hs : s.ok) (hb : Blk w d 194 (enc s)) (hl : Src w d A l cap) :
    Calls Tryz.prog 79 #[.pointer (some ⟨d, 0, none⟩), .slice A l.length cap] w fun e w' => e = .returned (.tuple #[.int .i64 l.length, .nilIface]) ∧ Blk w' d 194 (enc (wr s l)) ∧ Turn w w' (· = d) := by
  unfold wr
  split
  · next h1 => exact write_short d cap A l w s hs.1 hb hl hs.2 h1
  · split
    · next h1 h2 => exact write_whole d cap A l w s hs.1 hb hl h2 (by omega)
    · next h1 h2 => exact write_fill d cap A l w s hs.1 hb hl (by omega) hs.2 (by omega)
def w32 (x : Int) : List Int := [x % 256, x / 256 % 256, x / 65536 % 256, x / 16777216 % 256]
set_option maxRecDepth 100000 in
set_option maxHeartbeats 2000000 in
theorem put_calls (x y0 y1 y2 y3 : Int) (w : World) (g : Nat) (hb : Blk w g 201 [byte y0, byte y1, byte y2, byte y3]) :
    Calls Tryz.prog 25 #[.agg #[], .slice (some ⟨g, 0, none⟩) 4 4, .int .u32 x] w fun e w' => (∃ v, e = .returned v) ∧ Blk w' g 201 ((w32 x).map byte) ∧ Turn w w' (· = g) := by
  have hb1 : Blk (w.alloc (.cells #[] 203)) g 201 [byte y0, byte y1, byte y2, byte y3] := hb.kept ((Kept.refl w).alloc _)
  have HB := Lib.hid hb1
  have c0 := hb1.cell 0
  have c1 := hb1.cell 1
  have c2 := hb1.cell 2
  have c3 : (w.alloc (.cells #[] 203)).cell? ⟨g, 3, none⟩ = some (.int .u8 y3) := hb1.cell 3
  have f0 := hb1.free 0
  have f1 := hb1.free 1
  have f2 := hb1.free 2
  have f3 := hb1.free 3
  clear hb hb1
  go_enter Tryz.func25, Tryz.ntmps25
  go_wp2
  go_end0
  refine ⟨⟨_, rfl⟩, ?_, turn_set (turn_set (turn_set (turn_set ((Turn.refl w _).alloc _) _ _) _ _) _ _) _ _⟩
  exact (((HB.out.set 0 (.int .u8 (x % 256))).set 1 (.int .u8 (x / 256 % 256))).set 2 (.int .u8 (x / 65536 % 256))).set 3 (.int .u8 (x / 16777216 % 256))
theorem Src.turn {w w2 : World} {d : Nat} {A : Option Addr} {l : List Int} {cap : Nat} (h : Src w d A l cap) (k : Turn w w2 (· = d)) : Src w2 d A l cap := ⟨h.1, h.2.1, fun hp => by
  obtain ⟨b, o, e, hb, hn⟩ := h.2.2 hp
  exact ⟨b, o, e, hb.turn k hn, hn⟩⟩
theorem bytes_of_blk {w : World} {g : Nat} {t : TypeId} {l : List Int} (h : Blk w g t (l.map byte)) : Bytes w g 0 l := fun i hi => by
  rw [h.cell, Nat.zero_add, List.getElem?_map, List.getElem?_eq_getElem hi]
  simp [List.getD, List.getElem?_eq_getElem hi]
theorem mWrite (rv : Value) : ∀ W : World, (method 769 151 rv "Write").run Tryz.prog W = .ok (79, rv) W := fun W => by kernel_rfl
theorem still_value {P : Program} {ops : Array Oper} {w : World} {Q : Act → Prop} {a : Act} {o : Oper} {rest : List Oper} (v : Value) (hw : Region.wanted o (yielded ops a.tmps) = true) (h : (execOp a.eval o).run P w = .ok (.value v) w) (hk : wpStill P ops w Q rest (a.put o.dst v)) : wpStill P ops w Q (o :: rest) a := by
  unfold wpStill
  rw [if_pos hw]
  unfold Oper.still
  rw [h]
  exact ⟨rfl, hk⟩
theorem Turn.far {w w1 w2 : World} {S : Nat → Prop} {g : Nat} (h : Turn w w1 S) (k : Turn w1 w2 (· = g)) (hg : w.heap.size ≤ g) : Turn w w2 S :=
  ⟨k.os.trans h.os, k.tape.trans h.tape, k.output.trans h.output, Nat.le_trans h.size k.size, fun b hb hn => (k.block b (Nat.lt_of_lt_of_le hb h.size) (show ¬ b = g by omega)).trans (h.block b hb hn)⟩
set_option maxRecDepth 100000 in
set_option maxHeartbeats 2000000 in
theorem word_calls {d : Nat} {w : World} {s : St} (hs : s.ok) (hb : Blk w d 194 (enc s)) (x : Int) :
    Calls Tryz.prog 21 #[.iface 151 (.pointer (some ⟨d, 0, none⟩)), .int .u32 x] w fun e w' => (∃ v, e = .returned v) ∧ Blk w' d 194 (enc (wr s (w32 x))) ∧ Turn w w' (· = d) := by
  have HB := Lib.hid hb
  go_enter Tryz.func21, Tryz.ntmps21
  go_wp2
  go_still_tail 3, (by kernel_rfl)
  change wpList _ _ _ _ _ (w.alloc (.cells #[.int .u8 0, .int .u8 0, .int .u8 0, .int .u8 0] 201)).drew
  have HT1 : Hid (Turn w (w.alloc (.cells #[.int .u8 0, .int .u8 0, .int .u8 0, .int .u8 0] 201)).drew (· = d)) := Lib.hid (((Turn.refl w _).alloc _).drew)
  have HG1 : Hid (Blk (w.alloc (.cells #[.int .u8 0, .int .u8 0, .int .u8 0, .int .u8 0] 201)).drew w.heap.size 201 [byte 0, byte 0, byte 0, byte 0]) := Lib.hid (Blk.drew (Blk.new w 201 [byte 0, byte 0, byte 0, byte 0]))
  have HB1 := Lib.hid ((HB.out.kept ((Kept.refl w).alloc (.cells #[.int .u8 0, .int .u8 0, .int .u8 0, .int .u8 0] 201))).drew)
  have hdg : d < w.heap.size := HB.out.lt
  have hgs0 : w.heap.size ≤ w.heap.size := Nat.le_refl _
  generalize hgs : w.heap.size = g at HT1 HG1 HB1 hdg hgs0
  generalize (w.alloc (.cells #[.int .u8 0, .int .u8 0, .int .u8 0, .int .u8 0] 201)).drew = w1 at *
  go_wp2_with (go_at_call 25; refine (put_calls x 0 0 0 0 _ g HG1.out).mono ?_; rintro e w2 ⟨⟨v2, rfl⟩, hg2, ht2⟩)
  have HG2 := Lib.hid hg2
  have HB2 := Lib.hid (ht2.blk HB1.out (by omega))
  have HT2 := Lib.hid (Turn.far HT1.out ht2 (by omega))
  clear hg2 ht2 HG1 HB1 HT1
  go_still_tail 5, (by kernel_rfl)
  refine still_value (.func (.method "Write") #[.iface 151 (.pointer (some ⟨d, 0, none⟩))] #[]) (by kernel_rfl) (by kernel_rfl) ?_
  repeat still_step
  refine wpStill_nil ?_
  change wpList _ _ _ _ _ w2.drew
  have hsrc : Src w2.drew d (some ⟨g, 0, none⟩) (w32 x) 4 := ⟨Nat.le_refl 4, ⟨by decide, show 4 ≤ 4294967296 by decide⟩, fun _ => ⟨g, 0, rfl, bytes_of_blk HG2.out.drew, by omega⟩⟩
  have hwr := write_calls hs HB2.out.drew hsrc
  rw [show (w32 x).length = 4 from rfl] at hwr
  have HWR := Lib.hid hwr
  clear hwr hsrc
  have hme := mWrite (.pointer (some ⟨d, 0, none⟩))
  go_wp2_with (go_at_call 79; refine HWR.out.mono ?_; rintro e w3 ⟨rfl, hb3, ht3⟩)
  have HB3 := Lib.hid hb3
  have HT3 := Lib.hid (HT2.out.drew.trans ht3)
  clear hb3 ht3
  go_end0
  exact ⟨⟨_, rfl⟩, HB3.out, HT3.out⟩
noncomputable def pre (s : St) (l : List Int) : St := wr (wr s (w32 ((l.length : Int) % 4294967296))) l
theorem pre_ok {s : St} (h : s.ok) (l : List Int) : (pre s l).ok := wr_ok (wr_ok h _) _
set_option maxRecDepth 100000 in
set_option maxHeartbeats 2000000 in
theorem prefixed_calls {d cap : Nat} {A : Option Addr} {l : List Int} {w : World} {s : St} (hs : s.ok) (hb : Blk w d 194 (enc s)) (hl : Src w d A l cap) :
    Calls Tryz.prog 20 #[.iface 151 (.pointer (some ⟨d, 0, none⟩)), .slice A l.length cap] w fun e w' => (∃ v, e = .returned v) ∧ Blk w' d 194 (enc (pre s l)) ∧ Turn w w' (· = d) := by
  have HB := Lib.hid hb
  have HL := Lib.hid hl
  have hll : l.length ≤ 4294967296 := hl.2.1.2
  have H1 := Lib.hid (word_calls hs HB.out ((l.length : Int) % 4294967296))
  have hok := wr_ok hs (w32 ((l.length : Int) % 4294967296))
  have H2 := Lib.hid (fun (X : World) (h1 : Blk X d 194 (enc (wr s (w32 ((l.length : Int) % 4294967296))))) (h2 : Turn w X (· = d)) => (write_calls hok h1 (HL.out.turn h2) : Calls Tryz.prog 79 #[.pointer (some ⟨d, 0, none⟩), .slice A l.length cap] X fun e w' => _))
  have HP := Lib.hid (show pre s l = wr (wr s (w32 ((l.length : Int) % 4294967296))) l from rfl)
  generalize pre s l = sP at *
  generalize hs1 : wr s (w32 ((l.length : Int) % 4294967296)) = s1 at *
  rw [← HP.out] at H2
  clear HP hs1
  generalize hL : l.length = L at *
  have HLL := Lib.hid hL
  clear hb hl hL
  go_enter Tryz.func20, Tryz.ntmps20
  have hme := mWrite (.pointer (some ⟨d, 0, none⟩))
  go_wp2_with (first
    | (go_at_call 21; refine H1.out.mono ?_; rintro e w1 ⟨⟨v, rfl⟩, hb1, ht1⟩)
    | (go_at_call 79; refine (H2.out _ hb1 ht1).mono ?_; rintro e w2 ⟨rfl, hb2, ht2⟩))
  go_end0
  exact ⟨⟨_, rfl⟩, hb2, ht1.trans ht2⟩
end Go.Proofs.YtgjhmbbbkkidlaaGreatDoor.hash
/-
  A new digest.
  Conditions: the tie's variable.
-/
namespace Go.Proofs.YtgjhmbbbkkidlaaGreatDoor.hash
open Go.ChangeShapes Go.WideShapes Go.ChangeAt Go.RowKit
open Go.Proofs.YtgjhmbbbkkidlaaGreatDoor.kit
def st00 : St := ⟨0, 0, 0, 0, 0, List.replicate 32 0, 0⟩
noncomputable def st1 : St := { st00 with v1 := IntKind.u64.wrap 25430182151971714518, v2 := 14029467366897019727, v4 := IntKind.u64.wrap (-11400714785074694791) }
theorem st1_ok : st1.ok := ⟨rfl, by decide⟩
set_option maxRecDepth 100000 in
set_option maxHeartbeats 2000000 in
theorem reset_calls (d : Nat) (w : World) (hg : w.cell? ⟨1, 0, none⟩ = some (.int .u64 11400714785074694791)) (hd : 1 < d) (hb : Blk w d 194 (enc st00)) :
    Calls Tryz.prog 24 #[.pointer (some ⟨d, 0, none⟩)] w fun e w' => (∃ v, e = .returned v) ∧ Blk w' d 194 (enc st1) ∧ Turn w w' (· = d) := by
  have c0 : w.cell? ⟨d, 0, none⟩ = some (.int .u64 0) := hb.cell 0
  have c1 : w.cell? ⟨d, 1, none⟩ = some (.int .u64 0) := hb.cell 1
  have c2 : w.cell? ⟨d, 2, none⟩ = some (.int .u64 0) := hb.cell 2
  have c3 : w.cell? ⟨d, 3, none⟩ = some (.int .u64 0) := hb.cell 3
  have c4 : w.cell? ⟨d, 4, none⟩ = some (.int .u64 0) := hb.cell 4
  have c37 : w.cell? ⟨d, 37, none⟩ = some (.int .i64 0) := hb.cell 37
  have f0 := hb.free 0
  have f1 := hb.free 1
  have f2 := hb.free 2
  have f3 := hb.free 3
  have f4 := hb.free 4
  have f37 := hb.free 37
  have HB := Lib.hid hb
  have hd1 : (1 : Nat) ≠ d := by omega
  have hd2 : d ≠ 1 := by omega
  clear hb
  go_enter Tryz.func24, Tryz.ntmps24
  go_wp2
  go_end0
  exact ⟨⟨_, rfl⟩, (((((HB.out.set 0 (.int .u64 (IntKind.u64.wrap 25430182151971714518))).set 1 (.int .u64 14029467366897019727)).set 2 (.int .u64 0)).set 3 (.int .u64 (IntKind.u64.wrap (-11400714785074694791)))).set 4 (.int .u64 0)).set 37 (.int .i64 0), turn_set (turn_set (turn_set (turn_set (turn_set (turn_set (Turn.refl w _) _ _) _ _) _ _) _ _) _ _) _ _⟩
theorem kept_of_turn {w w1 w2 : World} {d : Nat} (h : Kept w w1) (k : Turn w1 w2 (· = d)) (hd : w.heap.size ≤ d) : Kept w w2 :=
  ⟨k.os.trans h.os, k.tape.trans h.tape, k.output.trans h.output, Nat.le_trans h.size k.size, fun b hb => (k.block b (Nat.lt_of_lt_of_le hb h.size) (show ¬ b = d by omega)).trans (h.block b hb)⟩
set_option maxRecDepth 100000 in
set_option maxHeartbeats 2000000 in
theorem new_calls (w : World) (hg : w.cell? ⟨1, 0, none⟩ = some (.int .u64 11400714785074694791)) :
    Calls Tryz.prog 19 #[] w fun e w' => ∃ d, e = .returned (.pointer (some ⟨d, 0, none⟩)) ∧ w.heap.size ≤ d ∧ Blk w' d 194 (enc st1) ∧ Kept w w' := by
  have hlt : 1 < w.heap.size := World.block_lt_of_cell? w ⟨1, 0, none⟩ hg
  have HA := Lib.hid (show Blk (w.alloc (.cells (enc st00).toArray 194)) w.heap.size 194 (enc st00) from Blk.new w 194 _)
  have hg2 := ((Kept.refl w).alloc (.cells (enc st00).toArray 194)).cell hg
  have H1 := Lib.hid (reset_calls w.heap.size _ hg2 hlt HA.out)
  clear hg2 HA
  go_enter Tryz.func19, Tryz.ntmps19
  go_wp2_with (go_at_call 24; refine H1.out.mono ?_; rintro e w2 ⟨⟨v, rfl⟩, hb2, ht2⟩)
  go_ret
  exact ⟨_, rfl, Nat.le_refl _, hb2, kept_of_turn ((Kept.refl w).alloc _) ht2 (Nat.le_refl _)⟩
end Go.Proofs.YtgjhmbbbkkidlaaGreatDoor.hash
