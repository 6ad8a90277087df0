/-
  The worker's walk to its send.
  Conditions: what it reads is there.
-/
import Derived.LoopTactic
import Derived.StillTailTactics
import Derived.Laws.IdiomStrings
import Derived.Test.YtgjhmbbbkkidlaaGreatDoorVl
import Derived.Test.YtgjhmbbbkkidlaaGreatDoorWa
namespace Go.Proofs.YtgjhmbbbkkidlaaGreatDoor.hash
open Go.ChangeShapes Go.WideShapes Go.ChangeAt Go.RowKit
open Go.Proofs.YtgjhmbbbkkidlaaGreatDoor.kit
def pathB (s : ByteArray) : List Int := s.data.toList.map fun b => (b.toNat : Int)
theorem pathB_len (s : ByteArray) : (pathB s).length = s.size := by simp [pathB]
/-- a piece in memory -/
structure Pc (v : World) (pb i : Nat) (l : List Int) : Prop where
  ex : ∃ A cap k q, v.cell? ⟨pb, i * 3, none⟩ = some (.slice A l.length cap) ∧ v.cell? ⟨pb, i * 3 + 1, none⟩ = some (.int .u32 k) ∧ v.cell? ⟨pb, i * 3 + 2, none⟩ = some (.int .u8 q) ∧
    l.length ≤ cap ∧ cap ≤ maxLen ∧ l.length ≤ 4294967296 ∧ (0 < l.length → ∃ b o, A = some ⟨b, o, none⟩ ∧ Bytes v b o l)
/-- what the worker reads -/
structure Rd (v : World) (lb cb off : Nat) (path : ByteArray) (ls : List (List Int)) : Prop where
  g1 : v.cell? ⟨1, 0, none⟩ = some (.int .u64 11400714785074694791)
  h4 : v.cell? ⟨cb, off + 4, none⟩ = some .nilIface
  h5 : v.cell? ⟨cb, off + 5, none⟩ = some (.slice none 0 0)
  h10 : v.cell? ⟨cb, off + 10, none⟩ = some (.slice none 0 0)
  h11 : v.cell? ⟨cb, off + 11, none⟩ = some (.slice none 0 0)
  h12 : v.cell? ⟨cb, off + 12, none⟩ = some (.slice none 0 0)
  hp : ∃ pb, v.cell? ⟨cb, off + 13, none⟩ = some (.slice (some ⟨pb, 0, none⟩) ls.length ls.length) ∧ ∀ i, i < ls.length → Pc v pb i (ls.getD i [])
  ho : ∃ ob, v.cell? ⟨lb, 0, none⟩ = some (.pointer (some ⟨ob, 0, none⟩)) ∧ v.cell? ⟨ob, 31, none⟩ = some (.string path)
  hn : ls.length ≤ 1073741824
  hq : path.size ≤ 1073741824
noncomputable def foldP (s : St) (ls : List (List Int)) : Nat → St
  | 0 => s
  | i + 1 => pre (foldP s ls i) (ls.getD i [])
theorem foldP_ok {s : St} (h : s.ok) (ls : List (List Int)) : ∀ i, (foldP s ls i).ok
  | 0 => h
  | i + 1 => pre_ok (foldP_ok h ls i) _
noncomputable def withPath (path : ByteArray) : St := if path.toList.isEmpty = true then st1 else pre st1 (pathB path)
theorem withPath_ok (path : ByteArray) : (withPath path).ok := by
  unfold withPath
  split
  · exact st1_ok
  · exact pre_ok st1_ok _
/-- the digest at the end -/
noncomputable def fin (path : ByteArray) (ls : List (List Int)) : St := pre (pre (pre (foldP (withPath path) ls ls.length) []) []) []
theorem fin_ok (path : ByteArray) (ls : List (List Int)) : (fin path ls).ok := pre_ok (pre_ok (pre_ok (foldP_ok (withPath_ok path) ls _) _) _) _
structure Sum (v : World) (path : ByteArray) (ls : List (List Int)) (ch : Nat) (a : Act) (w : World) : Prop where
  ex : ∃ d, a.tmps.size = 187 ∧ a.tmps[2]? = some (.chan (some ch)) ∧ a.tmps[6]? = some (.pointer (some ⟨d, 0, none⟩)) ∧ a.defers = [] ∧ Blk w d 194 (enc (fin path ls)) ∧ Kept v w
theorem path_src (w : World) (d : Nat) (s : ByteArray) (hd : d < w.heap.size) (hq : s.size ≤ 1073741824) (k : Nat) (hk : k = grownCap w s.size 0 5) (f : Nat × Nat) : Src (w.drew.alloc (.cells (bytesRow s k) 5 f)) d (some ⟨w.heap.size, 0, none⟩) (pathB s) k := by
  subst hk
  refine ⟨by rw [pathB_len]; exact grownCap_ge _ _ _ _, ⟨grownCap_le_maxLen _ _ _ _ (by unfold maxLen; omega), by rw [pathB_len]; omega⟩, fun _ => ⟨w.heap.size, 0, rfl, fun i hi => ?_, by omega⟩⟩
  have h : (w.drew.alloc (.cells (bytesRow s (grownCap w s.size 0 5)) 5 f)).heap[w.heap.size]? = some (.cells (bytesRow s (grownCap w s.size 0 5)) 5 f) := heap_alloc_new _ _
  unfold World.cell?
  dsimp only
  rw [h]
  simp only [Nat.zero_add]
  have hi2 : i < s.data.size := by rw [pathB_len] at hi; exact hi
  unfold bytesRow
  rw [Array.getElem?_append_left (by simpa using hi2)]
  simp [pathB, byte, List.getD, hi2, Array.getElem?_eq_getElem hi2]
theorem nil_calls {d : Nat} {w : World} {s : St} (hs : s.ok) (hb : Blk w d 194 (enc s)) :
    Calls Tryz.prog 20 #[.iface 151 (.pointer (some ⟨d, 0, none⟩)), .slice none 0 0] w fun e w' => (∃ v, e = .returned v) ∧ Blk w' d 194 (enc (pre s [])) ∧ Turn w w' (· = d) :=
  prefixed_calls (l := []) hs hb ⟨Nat.le_refl _, ⟨by decide, by decide⟩, fun h => absurd h (by decide)⟩
theorem Pc.src {v X : World} {d cap : Nat} {A : Option Addr} {l : List Int} (h : l.length ≤ cap ∧ cap ≤ maxLen ∧ l.length ≤ 4294967296 ∧ (0 < l.length → ∃ b o, A = some ⟨b, o, none⟩ ∧ Bytes v b o l)) (hk : Kept v X) (hd : v.heap.size ≤ d) : Src X d A l cap :=
  ⟨h.1, ⟨h.2.1, h.2.2.1⟩, fun hp => by
    obtain ⟨b, o, e, hb⟩ := h.2.2.2 hp
    have := World.block_lt_of_cell? v _ (hb 0 hp)
    exact ⟨b, o, e, hb.kept hk, by dsimp only at this; omega⟩⟩
set_option maxRecDepth 100000 in
set_option maxHeartbeats 4000000 in
theorem worker_gets (v : World) (lb cb off ch : Nat) (path : ByteArray) (ls : List (List Int)) (h : Rd v lb cb off path ls) :
    GetsF Tryz.prog Tryz.f18 8 (Sum v path ls ch) { tmps := #[.pointer (some ⟨lb, 0, none⟩), .pointer (some ⟨cb, off, none⟩), .chan (some ch)] ++ Array.replicate 184 undef, defers := [] } v := by
  have hta : ∀ W : World, (Instr.typeAssert .nilIface 139 153 true).run Tryz.prog W = Result.ok (.tuple #[.pointer none, .bool false]) W := fun W => by kernel_rfl
  have hcv : ∀ W : World, (convert 9 24 (.string path)).run Tryz.prog W = .ok (.slice (some ⟨W.heap.size, 0, none⟩) path.size (grownCap W path.size 0 5)) (W.drew.alloc (.cells (bytesRow path (grownCap W path.size 0 5)) 5 ((bytesRow path (grownCap W path.size 0 5)).size, (bytesRow path (grownCap W path.size 0 5)).size + 1))) := fun W => run_bytes_of_string W 9 24 5 path Tryz.underlying9 Tryz.underlying24 Tryz.underlying5
  refine getsF_of rfl ?_
  simp only [tailC]
  simp only [List.size_toArray, List.length_cons, List.length_nil, Nat.reduceAdd, Nat.reduceSub, Array.replicate_succ, Array.replicate_zero, List.push_toArray, List.append_toArray, List.nil_append, List.cons_append]
  refine gets_seq ?_
  have H1 := Lib.hid (new_calls v h.g1)
  go_wp2_with (go_at_call 19; refine H1.out.mono ?_; rintro e w1 ⟨d, rfl, hd, hb, hk⟩)
  have k4 := hk.cell h.h4
  have k5 := hk.cell h.h5
  obtain ⟨ob, ho, hpath⟩ := h.ho
  obtain ⟨pb, hpb, hps⟩ := h.hp
  have ko := hk.cell ho
  have kp := hk.cell hpath
  have HB := Lib.hid hb
  have HH := Lib.hid h
  have HPS := Lib.hid hps
  have hdl : d < w1.heap.size := hb.lt
  clear hb hps h
  refine gets_seq ?_
  go_wp2
  refine gets_seq ?_
  go_wp2
  go_loopw [99] (fun t wr => t = .int .i64 0 ∧ wr = w1) (fun _ _ => 0)
  case atStart => exact ⟨rfl, rfl⟩
  case round =>
    obtain ⟨rfl, rfl⟩ := hrel
    go_wp2
    refine gets_seq ?_
    by_cases hpe : path.toList.isEmpty = true
    · have hwp : withPath path = st1 := if_pos hpe
      have HW := Lib.hid hwp
      clear hwp
      go_wp2
      have HB2 : Hid (Blk wr d 194 (enc (withPath path))) := Lib.hid (by rw [HW.out]; exact HB.out)
      have hk2 : Kept v wr := hk
      have q13 := hk2.cell hpb
      refine gets_seq ?_
      go_wp2
      go_loopw [16, 141] (fun t16 t141 wr => ∃ i, i ≤ ls.length ∧ t141 = .int .i64 (i : Int) ∧ Kept v wr ∧ Hid (Blk wr d 194 (enc (foldP (withPath path) ls i)))) (fun _ t _ => ls.length - natOf t)
      case atStart => exact ⟨0, Nat.zero_le _, rfl, hk2, HB2⟩
      case round =>
        obtain ⟨i, hi, rfl, hk3, HB3⟩ := hrel
        by_cases hlt : i < ls.length
        · obtain ⟨A, cap, k, q, p1, p2, p3, psrc⟩ := (HPS.out i hlt).ex
          have q1 := hk3.cell p1
          have q2 := hk3.cell p2
          have q3 := hk3.cell p3
          have HC3 := Lib.hid (fun (X : World) (hx : Kept wr X) => prefixed_calls (foldP_ok (withPath_ok path) ls i) (HB3.out.kept hx) (Pc.src psrc (hk3.trans hx) hd))
          clear p1 p2 p3 psrc
          have hnl : ls.length ≤ 1073741824 := HH.out.hn
          generalize hll : (ls.getD i []).length = L at *
          have HLL := Lib.hid hll
          clear hll
          go_wp2_with (go_at_call 20; refine (HC3.out _ ((Kept.refl _).alloc _)).mono ?_; rintro e w3 ⟨⟨x, rfl⟩, hb3, ht3⟩; have hk4 := kept_of_turn (hk3.trans ((Kept.refl wr).alloc _)) ht3 hd)
          refine ⟨⟨i + 1, hlt, by rw [Int.natCast_add]; rfl, hk4, Lib.hid hb3⟩, ?_⟩
          simp only [natOf]
          omega
        · obtain rfl : i = ls.length := by omega
          go_wp2
          have HN1 := Lib.hid (nil_calls (foldP_ok (withPath_ok path) ls ls.length) HB3.out)
          have e10 := hk3.cell HH.out.h10
          refine gets_seq ?_
          go_wp2_with (go_at_call 20; refine HN1.out.mono ?_; rintro e w3 ⟨⟨x3, rfl⟩, hb3, ht3⟩)
          have hk4 := kept_of_turn hk3 ht3 hd
          have e11 := hk4.cell HH.out.h11
          have HN2 := Lib.hid (nil_calls (pre_ok (foldP_ok (withPath_ok path) ls ls.length) []) hb3)
          clear hb3
          refine gets_seq ?_
          go_wp2_with (go_at_call 20; refine HN2.out.mono ?_; rintro e w4 ⟨⟨x4, rfl⟩, hb4, ht4⟩)
          have hk5 := kept_of_turn hk4 ht4 hd
          have e12 := hk5.cell HH.out.h12
          have HN3 := Lib.hid (nil_calls (pre_ok (pre_ok (foldP_ok (withPath_ok path) ls ls.length) []) []) hb4)
          clear hb4
          refine gets_seq ?_
          go_wp2_with (go_at_call 20; refine HN3.out.mono ?_; rintro e w5 ⟨⟨x5, rfl⟩, hb5, ht5⟩)
          have hk6 := kept_of_turn hk5 ht5 hd
          refine gets_here ⟨d, rfl, rfl, rfl, rfl, hb5, hk6⟩
    · have hpe2 : path.toList.isEmpty = false := by simpa using hpe
      have hwp : withPath path = pre st1 (pathB path) := if_neg hpe
      have HW := Lib.hid hwp
      clear hwp
      have HS := Lib.hid (path_src wr d path hdl HH.out.hq _ rfl ((bytesRow path (grownCap wr path.size 0 5)).size, (bytesRow path (grownCap wr path.size 0 5)).size + 1))
      have hkA : Kept wr (wr.drew.alloc (.cells (bytesRow path (grownCap wr path.size 0 5)) 5 ((bytesRow path (grownCap wr path.size 0 5)).size, (bytesRow path (grownCap wr path.size 0 5)).size + 1))) := ((Kept.refl wr).drew).alloc _
      have HC := Lib.hid (prefixed_calls st1_ok (HB.out.kept hkA) HS.out)
      rw [pathB_len] at HC
      go_wp2_with (go_at_call 20; refine HC.out.mono ?_; rintro e w2 ⟨⟨x, rfl⟩, hb2, ht2⟩)
      have HB2 : Hid (Blk w2 d 194 (enc (withPath path))) := Lib.hid (by rw [HW.out]; exact hb2)
      have hk2 : Kept v w2 := kept_of_turn (hk.trans hkA) ht2 hd
      clear hb2
      have q13 := hk2.cell hpb
      refine gets_seq ?_
      go_wp2
      go_loopw [16, 141] (fun t16 t141 wr => ∃ i, i ≤ ls.length ∧ t141 = .int .i64 (i : Int) ∧ Kept v wr ∧ Hid (Blk wr d 194 (enc (foldP (withPath path) ls i)))) (fun _ t _ => ls.length - natOf t)
      case atStart => exact ⟨0, Nat.zero_le _, rfl, hk2, HB2⟩
      case round =>
        obtain ⟨i, hi, rfl, hk3, HB3⟩ := hrel
        by_cases hlt : i < ls.length
        · obtain ⟨A, cap, k, q, p1, p2, p3, psrc⟩ := (HPS.out i hlt).ex
          have q1 := hk3.cell p1
          have q2 := hk3.cell p2
          have q3 := hk3.cell p3
          have HC3 := Lib.hid (fun (X : World) (hx : Kept wr X) => prefixed_calls (foldP_ok (withPath_ok path) ls i) (HB3.out.kept hx) (Pc.src psrc (hk3.trans hx) hd))
          clear p1 p2 p3 psrc
          have hnl : ls.length ≤ 1073741824 := HH.out.hn
          generalize hll : (ls.getD i []).length = L at *
          have HLL := Lib.hid hll
          clear hll
          go_wp2_with (go_at_call 20; refine (HC3.out _ ((Kept.refl _).alloc _)).mono ?_; rintro e w3 ⟨⟨x, rfl⟩, hb3, ht3⟩; have hk4 := kept_of_turn (hk3.trans ((Kept.refl wr).alloc _)) ht3 hd)
          refine ⟨⟨i + 1, hlt, by rw [Int.natCast_add]; rfl, hk4, Lib.hid hb3⟩, ?_⟩
          simp only [natOf]
          omega
        · obtain rfl : i = ls.length := by omega
          go_wp2
          have HN1 := Lib.hid (nil_calls (foldP_ok (withPath_ok path) ls ls.length) HB3.out)
          have e10 := hk3.cell HH.out.h10
          refine gets_seq ?_
          go_wp2_with (go_at_call 20; refine HN1.out.mono ?_; rintro e w3 ⟨⟨x3, rfl⟩, hb3, ht3⟩)
          have hk4 := kept_of_turn hk3 ht3 hd
          have e11 := hk4.cell HH.out.h11
          have HN2 := Lib.hid (nil_calls (pre_ok (foldP_ok (withPath_ok path) ls ls.length) []) hb3)
          clear hb3
          refine gets_seq ?_
          go_wp2_with (go_at_call 20; refine HN2.out.mono ?_; rintro e w4 ⟨⟨x4, rfl⟩, hb4, ht4⟩)
          have hk5 := kept_of_turn hk4 ht4 hd
          have e12 := hk5.cell HH.out.h12
          have HN3 := Lib.hid (nil_calls (pre_ok (pre_ok (foldP_ok (withPath_ok path) ls ls.length) []) []) hb4)
          clear hb4
          refine gets_seq ?_
          go_wp2_with (go_at_call 20; refine HN3.out.mono ?_; rintro e w5 ⟨⟨x5, rfl⟩, hb5, ht5⟩)
          have hk6 := kept_of_turn hk5 ht5 hd
          refine gets_here ⟨d, rfl, rfl, rfl, rfl, hb5, hk6⟩
end Go.Proofs.YtgjhmbbbkkidlaaGreatDoor.hash

