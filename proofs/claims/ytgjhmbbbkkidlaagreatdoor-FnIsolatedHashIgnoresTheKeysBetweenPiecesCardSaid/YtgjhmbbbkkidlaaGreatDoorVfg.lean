/-
  The digest's Write: the short way.
  Conditions: the bytes are there.
-/
import Derived.StillTailTactics
import Derived.Test.YtgjhmbbbkkidlaaGreatDoorVe
namespace Go.Proofs.YtgjhmbbbkkidlaaGreatDoor.hash
open Go.ChangeShapes Go.WideShapes Go.ChangeAt Go.RowKit
open Go.Proofs.YtgjhmbbbkkidlaaGreatDoor.kit
/-- a slice of bytes beside the digest -/
def Src (w : World) (d : Nat) (A : Option Addr) (l : List Int) (cap : Nat) : Prop := l.length ≤ cap ∧ (cap ≤ maxLen ∧ l.length ≤ 4294967296) ∧ (0 < l.length → ∃ b o, A = some ⟨b, o, none⟩ ∧ Bytes w b o l ∧ b ≠ d)
theorem Src.copy {w w2 : World} {d : Nat} {A : Option Addr} {l : List Int} {cap : Nat} (h : Src w d A l cap) (hk : Turn w w2 (· = d)) (k : Nat) (hp : 0 < ((l.take k).map byte).length) : ∃ ad, A = some ad ∧ ∀ j v, ((l.take k).map byte)[j]? = some v → w2.cell? (ad.add j) = some v := by
  have hp' : 0 < l.length := by simp only [List.length_map, List.length_take] at hp; omega
  obtain ⟨_, _, h3⟩ := h
  obtain ⟨b, o, rfl, hb, hne⟩ := h3 hp'
  refine ⟨_, rfl, fun j v hj => ?_⟩
  have hb2 := hb.turn hk hne
  rw [List.getElem?_map] at hj
  obtain ⟨x, hx, rfl⟩ := Option.map_eq_some_iff.1 hj
  rw [List.getElem?_take] at hx
  split at hx
  case isFalse => cases hx
  obtain ⟨hlt, rfl⟩ := List.getElem?_eq_some_iff.1 hx
  have := hb2 j hlt
  have e : l.getD j 0 = l[j] := by simp [List.getD, List.getElem?_eq_getElem hlt]
  rw [e] at this
  rw [← this]
  by_cases h0 : j = 0
  · subst h0
    rfl
  · simp [Addr.add, h0]
theorem slice_mem (d n : Nat) (hn : n < 32) (W : World) : (Instr.sliceAt 192 (.pointer (some ⟨d, 5, none⟩)) (some (.int .i64 n)) none none).run Tryz.prog W = Result.ok (.slice (some ⟨d, 5 + n, none⟩) (32 - n) (32 - n)) W := by
  have hl : Tryz.prog.arrayLen 192 = 32 := by kernel_rfl
  have ha : Tryz.prog.underlying 192 = some (.array (Tryz.prog.arrayLen 192) (Tryz.prog.elem 192)) := by kernel_rfl
  have he : Tryz.prog.elem 192 = 5 := by kernel_rfl
  have hz : ∀ W : World, (Go.sizeOf 5).run Tryz.prog W = Result.ok 1 W := fun _ => by kernel_rfl
  rw [Go.run_sliceAt_array_l (ht := ha) (h0 := by omega) (h1 := by omega), he, hz, hl]
  have e : (n : Int).toNat = n := Int.toNat_natCast n
  simp only [Result.andThen, Go.slicedAt, Addr.add, e]
  rw [if_neg (by omega), Nat.mul_one]
  by_cases h0 : n = 0
  · subst h0
    rfl
  · rw [if_neg h0]
theorem info5 : (Tryz.prog.info? 5).map (·.size) = some 1 := by kernel_rfl
set_option maxRecDepth 100000 in
set_option maxHeartbeats 2000000 in
theorem write_short (d cap : Nat) (A : Option Addr) (l : List Int) (w : World) (s : St) (hs : s.mem.length = 32) (hb : Blk w d 194 (enc s)) (hl : Src w d A l cap) (hn : s.n < 32) (hlt : s.n + l.length < 32) :
    Calls Tryz.prog 79 #[.pointer (some ⟨d, 0, none⟩), .slice A l.length cap] w fun e w' => e = .returned (.tuple #[.int .i64 l.length, .nilIface]) ∧ Blk w' d 194 (enc { s with tot := IntKind.u64.wrap (s.tot + l.length), mem := splice s.mem s.n l, n := s.n + l.length }) ∧ Turn w w' (· = d) := by
  have c4 : w.cell? ⟨d, 4, none⟩ = some (.int .u64 s.tot) := hb.cell 4
  have f4 := hb.free 4
  have c37 : w.cell? ⟨d, 37, none⟩ = some (.int .i64 s.n) := (hb.cell 37).trans (enc_n hs)
  have hb1 := hb.set 4 (.int .u64 (IntKind.u64.wrap (s.tot + l.length)))
  rw [enc_set5] at hb1
  have hlen : l.length < 32 := by omega
  generalize hL : l.length = L at *
  have HB1 := Lib.hid hb1
  have HS := Lib.hid hl
  have HLL := Lib.hid hL
  clear hb1 hb hl hL
  have hsl := slice_mem d s.n hn
  go_enter Tryz.func79, Tryz.ntmps79
  go_wp2
  have c1 : (w.setCell ⟨d, 4, none⟩ (.int .u64 (IntKind.u64.wrap (s.tot + L)))).cell? ⟨d, 37, none⟩ = some (.int .i64 s.n) := (HB1.out.cell 37).trans (enc_n hs)
  have HT : Hid (Turn w (w.setCell ⟨d, 4, none⟩ (.int .u64 (IntKind.u64.wrap (s.tot + L)))) (· = d)) := Lib.hid (turn_set (Turn.refl w _) _ _)
  generalize w.setCell ⟨d, 4, none⟩ (.int .u64 (IntKind.u64.wrap (s.tot + L))) = w1 at *
  go_still_tail 9, (by kernel_rfl)
  change wpList _ _ _ _ _ w1.drew
  have HB2 : Hid (Blk w1.drew d 194 _) := Lib.hid (HB1.out.drew)
  refine wpList_copy_turn rfl (.tmp 32) (.tmp 33) 24 24 rfl 5 Tryz.underlying24 info5 (some ⟨d, 5 + s.n, none⟩) A (32 - s.n) (32 - s.n) L cap rfl rfl d (5 + s.n) _ 194 HB2.out ((l.take L).map byte) (by rw [List.length_map, List.length_take, HLL.out, Nat.min_self]; exact (Nat.min_eq_left (by omega)).symm) (fun h => ⟨rfl, HS.out.copy (HT.out.drew) L h⟩) (by rw [enc_len (by exact hs), List.length_map, List.length_take, HLL.out, Nat.min_self]; omega) ?_ ?_
  · intro v hv
    obtain ⟨x, _, rfl⟩ := List.mem_map.1 hv
    rfl
  intro w2 HB3 HT2
  rw [List.take_of_length_le (by rw [HLL.out]; omega), enc_copy (s := { s with tot := IntKind.u64.wrap (s.tot + L) }) (by exact hs) _ _ (by rw [HLL.out]; omega)] at HB3
  have hm2 : (splice s.mem s.n l).length = 32 := splice_len hs _ _ (by rw [HLL.out]; omega)
  have hb3 := HB3.out
  have f37 := hb3.free 37
  have c2 : w2.cell? ⟨d, 37, none⟩ = some (.int .i64 s.n) := (hb3.cell 37).trans (enc_n hm2)
  have hb4 := hb3.set 37 (.int .i64 ((s.n + L : Nat) : Int))
  rw [enc_setn (by exact hm2)] at hb4
  have HB5 := Lib.hid hb4
  clear hb4 hb3
  have HT3 := Lib.hid ((HT.out.drew).trans HT2.out)
  generalize (goInt ((List.map byte (List.take L l)).length : Int)) = G
  show wpList _ _ _ [] _ _
  simp only [Act.put]
  go_wp2
  go_ret2
  exact ⟨rfl, HB5.out, turn_set HT3.out _ _⟩
end Go.Proofs.YtgjhmbbbkkidlaaGreatDoor.hash
/-
  The digest's Write: the long way.
  Conditions: the bytes are there.
-/
namespace Go.Proofs.YtgjhmbbbkkidlaaGreatDoor.hash
open Go.ChangeShapes Go.WideShapes Go.ChangeAt Go.RowKit
open Go.Proofs.YtgjhmbbbkkidlaaGreatDoor.kit
/-- whole blocks, then the rest is kept -/
noncomputable def rest (s : St) (r : List Int) : St := { blks s r (r.length / 32) with mem := splice s.mem 0 (r.drop (32 * (r.length / 32))), n := r.length % 32 }
theorem slice_all (d : Nat) (W : World) : (Instr.sliceAt 192 (.pointer (some ⟨d, 5, none⟩)) none none none).run Tryz.prog W = Result.ok (.slice (some ⟨d, 5, none⟩) 32 32) W := by
  have hl : Tryz.prog.arrayLen 192 = 32 := by kernel_rfl
  have ha : Tryz.prog.underlying 192 = some (.array (Tryz.prog.arrayLen 192) (Tryz.prog.elem 192)) := by kernel_rfl
  have he : Tryz.prog.elem 192 = 5 := by kernel_rfl
  have hz : ∀ W : World, (Go.sizeOf 5).run Tryz.prog W = Result.ok 1 W := fun _ => by kernel_rfl
  rw [Go.run_sliceAt_array_all (ht := ha), he, hz, hl]
  rfl
theorem Bytes.drop {w : World} {b o : Nat} {l : List Int} (h : Bytes w b o l) (k : Nat) : Bytes w b (o + k) (l.drop k) := fun i hi => by
  have h2 := h (k + i) (by simp at hi; omega)
  rw [show o + k + i = o + (k + i) by omega, h2]
  simp [List.getD, List.getElem?_drop]
theorem Bytes.at_ {w : World} {b o : Nat} {l : List Int} (h : Bytes w b o l) {j : Nat} {v : Value} (hj : (l.map byte)[j]? = some v) : w.cell? ((⟨b, o, none⟩ : Addr).add j) = some v := by
  rw [List.getElem?_map] at hj
  obtain ⟨x, hx, rfl⟩ := Option.map_eq_some_iff.1 hj
  obtain ⟨hlt, rfl⟩ := List.getElem?_eq_some_iff.1 hx
  have := h j hlt
  have e : l.getD j 0 = l[j] := by simp [List.getD, List.getElem?_eq_getElem hlt]
  rw [e] at this
  rw [← this]
  by_cases h0 : j = 0
  · subst h0
    rfl
  · simp [Addr.add, h0]
theorem slice_tail (b o L cap q : Nat) (z : Int) (hz : z = q) (hq : q ≤ L) (hc : L ≤ cap) : ∃ A' : Addr, (∀ W : World, (Instr.slice 24 (.slice (some ⟨b, o, none⟩) L cap) (some (.int .i64 z)) none none).run Tryz.prog W = Result.ok (.slice (some A') (L - q) (cap - q)) W) ∧ (q < L → A' = ⟨b, o + q, none⟩) := by
  subst hz
  have he : Tryz.prog.elem 24 = 5 := by kernel_rfl
  have ha : Tryz.prog.underlying 24 = some (.slice (Tryz.prog.elem 24)) := by kernel_rfl
  have hz : ∀ W : World, (Go.sizeOf 5).run Tryz.prog W = Result.ok 1 W := fun _ => by kernel_rfl
  refine ⟨if cap = q then ⟨b, o, none⟩ else ⟨b, o + q, none⟩, fun W => ?_, fun h => if_neg (by omega)⟩
  rw [Go.run_slice_l (ht := ha) (h0 := by omega) (h1 := by omega), he, hz]
  simp only [Result.andThen, Go.sliced, Addr.add, Int.toNat_natCast, Nat.mul_one, Option.map_some]
  by_cases hcq : cap = q
  · simp [hcq]
  · simp only [if_neg hcq]
    by_cases h0 : q = 0
    · subst h0
      simp
    · simp [h0]
set_option maxRecDepth 100000 in
set_option maxHeartbeats 2000000 in
theorem write_whole (d cap : Nat) (A : Option Addr) (l : List Int) (w : World) (s : St) (hs : s.mem.length = 32) (hb : Blk w d 194 (enc s)) (hl : Src w d A l cap) (hn : s.n = 0) (hlt : 32 ≤ l.length) :
    Calls Tryz.prog 79 #[.pointer (some ⟨d, 0, none⟩), .slice A l.length cap] w fun e w' => e = .returned (.tuple #[.int .i64 l.length, .nilIface]) ∧ Blk w' d 194 (enc (rest { s with tot := IntKind.u64.wrap (s.tot + l.length) } l)) ∧ Turn w w' (· = d) := by
  have c4 : w.cell? ⟨d, 4, none⟩ = some (.int .u64 s.tot) := hb.cell 4
  have f4 := hb.free 4
  have c37 : w.cell? ⟨d, 37, none⟩ = some (.int .i64 s.n) := (hb.cell 37).trans (enc_n hs)
  have hb1 := hb.set 4 (.int .u64 (IntKind.u64.wrap (s.tot + l.length)))
  rw [enc_set5] at hb1
  obtain ⟨hcap1, ⟨hcm, hcap2⟩, hsrc⟩ := hl
  obtain ⟨b, o, rfl, hB, hne⟩ := hsrc (by omega)
  generalize hL : l.length = L at *
  generalize hsR : rest { s with tot := IntKind.u64.wrap (s.tot + L) } l = sR
  have HRR := Lib.hid hsR
  have HB1 := Lib.hid hb1
  have HS := Lib.hid hB
  have HLL := Lib.hid hL
  clear hb1 hb hL hB hsrc hsR
  have hsl := slice_all d
  obtain ⟨A2, hr2, hA2⟩ := slice_tail b o L cap (32 * (L / 32)) (32 * ((L : Int) / 32)) (by omega) (by omega) hcap1
  go_enter Tryz.func79, Tryz.ntmps79
  have HT : Hid (Turn w (w.setCell ⟨d, 4, none⟩ (.int .u64 (IntKind.u64.wrap (s.tot + L)))) (· = d)) := Lib.hid (turn_set (Turn.refl w _) _ _)
  go_wp2_with (go_at_call 80; fail)
  have hb := blocks_run d b o cap l (by rw [HLL.out]; exact hcap1) hcm _ _ (by exact hs) HB1.out (HS.out.turn HT.out hne) hne (by rw [HLL.out]; exact hlt)
  rw [HLL.out] at hb
  refine hb.mono ?_
  clear hb
  rintro e w2 ⟨rfl, hb2, ht2⟩
  have HT2 := Lib.hid (HT.out.trans ht2)
  have HB2 := Lib.hid hb2
  clear hb2 ht2 HT
  have hm : (blks { s with tot := IntKind.u64.wrap (s.tot + L) } l (L / 32)).mem.length = 32 := by rw [(blks_mem _ _ _).1]; exact hs
  have hmm : (blks { s with tot := IntKind.u64.wrap (s.tot + L) } l (L / 32)).mem = s.mem := (blks_mem _ _ _).1
  have HR := Lib.hid (show rest { s with tot := IntKind.u64.wrap (s.tot + L) } l = { blks { s with tot := IntKind.u64.wrap (s.tot + L) } l (L / 32) with mem := splice (blks { s with tot := IntKind.u64.wrap (s.tot + L) } l (L / 32)).mem 0 (l.drop (32 * (L / 32))), n := L % 32 } by rw [hmm]; unfold rest; rw [HLL.out])
  rw [HRR.out] at HR
  clear HRR
  generalize blks { s with tot := IntKind.u64.wrap (s.tot + L) } l (L / 32) = sB at *
  clear hmm
  have HBy := Lib.hid ((HS.out.drop (32 * (L / 32))).turn HT2.out hne)
  have hq : ((32 * (L / 32) : Nat) : Int) = 32 * ((L : Int) / 32) := by omega
  have hdl : (l.drop (32 * (L / 32))).length = L % 32 := by rw [List.length_drop, HLL.out]; omega
  generalize hrr : l.drop (32 * (L / 32)) = rr at *
  clear hrr
  have HD := Lib.hid hdl
  clear hdl
  have hA3 : 0 < L % 32 → some A2 = some ⟨b, o + 32 * (L / 32), none⟩ := fun h => by rw [hA2 (by omega)]
  clear hA2
  have HA := Lib.hid hA3
  clear hA3
  have C1 : Hid ((rr.map byte).length = Nat.min (L - 32 * (L / 32)) 32) := Lib.hid (by rw [List.length_map, HD.out]; exact (show L % 32 = Nat.min (L - 32 * (L / 32)) 32 by rw [show (L - 32 * (L / 32)).min 32 = L - 32 * (L / 32) from Nat.min_eq_left (by omega)]; omega))
  have C2 : Hid (0 < (rr.map byte).length → (some ⟨d, 5, none⟩ : Option Addr) = some ⟨d, 5, none⟩ ∧ ∃ ad, some A2 = some ad ∧ ∀ j v, (rr.map byte)[j]? = some v → w2.cell? (ad.add j) = some v) := Lib.hid (fun h => by
    rw [List.length_map, HD.out] at h
    exact ⟨rfl, _, HA.out h, fun j v hj => HBy.out.at_ hj⟩)
  have C3 : Hid (5 + (rr.map byte).length ≤ (enc sB).length) := Lib.hid (by rw [enc_len hm, List.length_map, HD.out]; omega)
  have C4 : Hid (∀ v ∈ rr.map byte, v.oneCell' = true) := Lib.hid (fun v hv => by
    obtain ⟨x, _, rfl⟩ := List.mem_map.1 hv
    rfl)
  go_wp2_with (with_reducible refine wpList_copy_turn (o := ⟨some 134, _, _, _, _, _⟩) rfl (.tmp 132) (.tmp 133) 24 24 rfl 5 Tryz.underlying24 info5 (some ⟨d, 5, none⟩) (some A2) 32 32 (L - 32 * (L / 32)) (cap - 32 * (L / 32)) rfl rfl d 5 (enc sB) 194 HB2.out (rr.map byte) ?c1 ?c2 ?c3 ?c4 ?c5)
  case c1 => first | exact C1.out | simpa using C1.out
  case c2 => first | exact C2.out | simpa using C2.out
  case c3 => first | exact C3.out | simpa using C3.out
  case c4 => first | exact C4.out | simpa using C4.out
  intro w3 HB3 HT3
  have HB4 := HB3.out
  rw [show (5 : Nat) = 5 + 0 from rfl, enc_copy hm 0 rr (by rw [HD.out]; omega)] at HB4
  have hm2 : (splice sB.mem 0 rr).length = 32 := splice_len hm _ _ (by rw [HD.out]; omega)
  have hb4 : Blk w3 d 194 (enc { sB with mem := splice sB.mem 0 rr }) := HB4
  clear HB3 HB4
  have f37 := hb4.free 37
  have hb5 := hb4.set 37 (.int .i64 ((L % 32 : Nat) : Int))
  rw [enc_setn (by exact hm2)] at hb5
  have HB5 := Lib.hid hb5
  have c5 : w3.cell? ⟨d, 37, none⟩ = some (.int .i64 sB.n) := (hb4.cell 37).trans (enc_n hm2)
  clear hb5 hb4
  have HT4 := Lib.hid (HT2.out.trans HT3.out)
  have hz3 : L - 32 * (L / 32) = L % 32 := by omega
  rw [hz3]
  go_wp2
  go_ret2
  have hb6 := HB5.out
  rw [← HR.out] at hb6
  exact ⟨rfl, hb6, turn_set HT4.out _ _⟩
end Go.Proofs.YtgjhmbbbkkidlaaGreatDoor.hash
