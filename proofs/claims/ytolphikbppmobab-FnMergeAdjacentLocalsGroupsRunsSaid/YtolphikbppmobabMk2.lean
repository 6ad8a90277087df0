/-
  ZZlocalStmt over this seat's program: a local statement with its declarations.
  Conditions: at most 255 declarations, the numbers below 2^20.
-/
import Derived.Test.YtolphikbppmobabMj
import Derived.Test.YtolphikbppmobabMk
namespace Go.Proofs.Ytolphikbppmobab.mj
open Go.ChangeShapes Go.WideShapes Go.ChangeAt Go.RowKit
open kit

/-- a row of declarations that bind the numbers ds -/
def Dl (w : World) (cs : List Value) (ds : List Nat) : Prop :=
  (cs.length = ds.length * 4 ∧ ∀ u ∈ cs, u.oneCell' = true) ∧ ∀ j (h : j < ds.length), ∃ r, cs[j * 4]? = some (PB r) ∧ Blk w r 65 [.int .u32 ((0 : Nat) : Int), .int .u32 ((ds[j] : Nat) : Int)]

/-- the first d declarations are laid in block b; slot 10's block A waits -/
def Lb (w : World) (A b n first : Nat) (t : Value) (W : World) : Prop :=
  ∃ (d : Nat) (cs : List Value), d ≤ n ∧ t = .int .i64 (d : Int) ∧ Blk W b 61 cs ∧ (cs.length = n * 4 ∧ ∀ u ∈ cs, u.oneCell' = true) ∧ Kept w W ∧ Blk W A 36 [.nilIface, .int .i32 0] ∧
    ∀ j, j < d → ∃ r, w.heap.size ≤ r ∧ r ≠ b ∧ r ≠ A ∧ cs[j * 4]? = some (PB r) ∧ Blk W r 65 [.int .u32 ((0 : Nat) : Int), .int .u32 ((first + j : Nat) : Int)]

theorem oneC (C : List Value) (n : Nat) (hC : C.length = n * 4) (hz : ∀ o u, o < 4 → (Try.prog.info? 61).map (fun i => i.zero.map (·.cells[o]?)) = some (some (some u)) → ∀ k, k < n → C[k * 4 + o]? = some u) : ∀ u ∈ C, u.oneCell' = true := by
  have z0 := hz 0 .nilIface (by decide) (by kernel_rfl)
  have z1 := hz 1 (.int .i32 0) (by decide) (by kernel_rfl)
  have z2 := hz 2 .nilIface (by decide) (by kernel_rfl)
  have z3 := hz 3 (.int .i32 0) (by decide) (by kernel_rfl)
  intro u hu
  obtain ⟨i, hi, rfl⟩ := List.getElem_of_mem hu
  have hk : i / 4 < n := by omega
  have hget : ∀ o v, C[i / 4 * 4 + o]? = some v → i = i / 4 * 4 + o → v.oneCell' = true → C[i].oneCell' = true := fun o v h1 h2 h3 => by
    rw [← h2, List.getElem?_eq_getElem hi] at h1
    rw [Option.some.inj h1]; exact h3
  have hr : i % 4 = 0 ∨ i % 4 = 1 ∨ i % 4 = 2 ∨ i % 4 = 3 := by omega
  rcases hr with h | h | h | h
  · exact hget 0 _ (z0 _ hk) (by omega) rfl
  · exact hget 1 _ (z1 _ hk) (by omega) rfl
  · exact hget 2 _ (z2 _ hk) (by omega) rfl
  · exact hget 3 _ (z3 _ hk) (by omega) rfl

set_option maxRecDepth 100000 in
set_option maxHeartbeats 4000000 in
theorem localStmt (st : Int) (k : Int) (x : Bool) (first n : Nat) (hn : n ≤ 255) (hf : first ≤ 1048576) (w : World) :
    Calls Try.prog 14 #[.int .i32 st, .int .u8 k, .bool x, .int .u32 (first : Int), .int .i64 (n : Int)] w fun e w' => ∃ g b cs, e = .returned (.agg #[PL g, .int .i32 st]) ∧
      Blk w' g 49 [.slice (some ⟨b, 0, none⟩) n n, .int .u8 k, .bool x, .bool false] ∧ Blk w' b 61 cs ∧ Dl w' cs ((List.range n).map (first + ·)) ∧ Kept w w' := by
  obtain ⟨C, hC, hCz, hmk⟩ := makeN (T := 46) (E := 61) (size := 4) (bytes := 48) Try.underlying46 (by kernel_rfl) n (by omega) (by omega)
  have hC1 : ∀ u ∈ C, u.oneCell' = true := oneC C n hC hCz
  have HC1 := Lib.hid hC1
  clear hC1 hCz
  go_enter Try.func14, Try.ntmps14
  go_wp2
  go_loopw [12] (fun t W => Lb w w.heap.size (w.heap.size + 1) n first t W) (fun t _ => n - (intOf t).toNat)
  case atStart =>
    exact ⟨0, C, by omega, rfl, by simpa using Blk.new (w.alloc (.cells #[.nilIface, .int .i32 0] 36)) 61 C, ⟨hC, HC1.out⟩, ((Kept.refl _).alloc _).alloc _, (Blk.new w 36 [.nilIface, .int .i32 0]).alloc _, fun j hj => by omega⟩
  case round =>
    obtain ⟨d, cs, hd, rfl, hb, ⟨hcl, hone⟩, hk, hA, hr⟩ := hrel
    have HO := Lib.hid hone
    clear hone HC1
    by_cases hlt : d < n
    · have hb1 := hb.alloc (.cells #[.int .u32 0, .int .u32 ((first : Int) + (d : Int))] 65)
      have q0 := hb1.cellD (i := d * 4) (by omega)
      have q1 := hb1.cellD (i := d * 4 + 1) (by omega)
      generalize cs[d * 4] = u0 at q0
      generalize cs[d * 4 + 1] = u1 at q1
      have f0 := hb1.free (d * 4)
      have f1 := hb1.free (d * 4 + 1)
      have HB := Lib.hid hb
      have HR := Lib.hid hr
      have HK := Lib.hid hk
      have HA := Lib.hid hA
      have HB1 := Lib.hid hb1
      clear hb hb1 hr hk hA hmk
      go_wp2_with fail
      go_roundw
      case rel =>
        have hlb := HB.out.lt
        have hla := HA.out.lt
        have hle := HK.out.size
        refine ⟨d + 1, (cs.set (d * 4) (PB wr.heap.size)).set (d * 4 + 1) (.int .i32 0), by omega, by go_num, (HB1.out.set _ _).set _ _, ⟨by simp [hcl], fun u hu => ?_⟩, ((HK.out.alloc _).setCell (Nat.le_succ _) _).setCell (Nat.le_succ _) _, ((HA.out.alloc _).far (by simp) _).far (by simp) _, fun j hj => ?_⟩
        · rcases List.mem_or_eq_of_mem_set hu with hu | hu
          · rcases List.mem_or_eq_of_mem_set hu with hu | hu
            · exact HO.out u hu
            · rw [hu]; rfl
          · rw [hu]; rfl
        by_cases hjd : j < d
        · obtain ⟨r, r1, r2, r3, r4, r5⟩ := HR.out j hjd
          refine ⟨r, r1, r2, r3, ?_, ((r5.alloc _).far r2 _).far r2 _⟩
          rw [List.getElem?_set_ne (by omega), List.getElem?_set_ne (by omega)]
          exact r4
        · obtain rfl : j = d := by omega
          have hne : wr.heap.size ≠ w.heap.size + 1 := by omega
          refine ⟨wr.heap.size, hle, hne, by omega, ?_, ((Blk.new wr 65 [.int .u32 0, .int .u32 ((first : Int) + (j : Int))]).far hne _).far hne _⟩
          rw [List.getElem?_set_ne (by omega), List.getElem?_set_self (by omega)]
      case measure => simp [intOf]; omega
    · obtain rfl : d = n := by omega
      have HB := Lib.hid hb
      have HR := Lib.hid hr
      have HK := Lib.hid hk
      have hA1 := hA.alloc (.cells #[.slice (some ⟨w.heap.size + 1, 0, none⟩) d d, .int .u8 k, .bool x, .bool false] 49)
      have c0 := hA1.cell 0
      have c1 := hA1.cell 1
      simp only [List.getElem?_cons_zero, List.getElem?_cons_succ] at c0 c1
      have f0 := hA1.free 0
      have f1 := hA1.free 1
      have HA := Lib.hid hA1
      clear hA1
      clear hb hr hk hA hmk
      go_wp2_with fail
      have hlb := HB.out.lt
      have hle := HK.out.size
      have hF := (HA.out.set 0 (PL wr.heap.size)).set 1 (.int .i32 st)
      have d0 := hF.cell 0
      have d1 := hF.cell 1
      simp only [List.set_cons_zero, List.set_cons_succ, List.getElem?_cons_zero, List.getElem?_cons_succ, PL] at d0 d1
      have hne : wr.heap.size ≠ w.heap.size := by have := HK.out.size; omega
      refine bodyPost_ret (v := .agg #[PL wr.heap.size, .int .i32 st]) (by simp [results, Try.results14, go_sem, PL, d0, d1]) rfl ⟨wr.heap.size, w.heap.size + 1, cs, rfl, ((Blk.new wr 49 [.slice (some ⟨w.heap.size + 1, 0, none⟩) d d, .int .u8 k, .bool x, .bool false]).far hne _).far hne _, ((HB.out.alloc _).far (by simp) _).far (by simp) _, ⟨⟨by simp [hcl], HO.out⟩, fun j h => ?_⟩, ((HK.out.alloc _).setCell (Nat.le_refl _) _).setCell (Nat.le_refl _) _⟩
      have hj : j < d := by simpa using h
      obtain ⟨r, r1, r2, r3, r4, r5⟩ := HR.out j hj
      refine ⟨r, r4, ?_⟩
      have := ((r5.alloc (.cells #[.slice (some ⟨w.heap.size + 1, 0, none⟩) d d, .int .u8 k, .bool x, .bool false] 49)).far (p := ⟨w.heap.size, 0, none⟩) r3 (PL wr.heap.size)).far (p := ⟨w.heap.size, 1, none⟩) r3 (.int .i32 st)
      simpa [PL] using this
end Go.Proofs.Ytolphikbppmobab.mj
