/-
  Contracts of isLinkerSpaceB1, allLinkerSpaceB1 and moveBeforeExport over this seat's program.
  Conditions: the bounds lie within the text; the text is at most 4096 bytes long.
-/
import Derived.Test.YtolphikbppmobaaDoorSh
import Derived.WalkKit
import Derived.ProofKit
import Derived.Lib.Hide
namespace Go.Proofs.YtolphikbppmobaaDoor.mv
open Go.ChangeShapes Go.WideShapes Go.ChangeAt Go.RowKit

theorem is_cs (c : UInt8) : cs.contains c = (((((c.toNat : Int) == 32) || ((c.toNat : Int) == 9)) || ((c.toNat : Int) == 13)) || ((c.toNat : Int) == 10)) := by
  have h : ∀ (n : Nat) (hn : n < 256), (c == UInt8.ofNat n) = ((c.toNat : Int) == (n : Int)) := fun n hn => by
    rw [Bool.eq_iff_iff, beq_iff_eq, beq_iff_eq]
    constructor
    · rintro rfl
      simp [UInt8.toNat_ofNat']
      omega
    · intro h
      apply UInt8.toNat_inj.1
      rw [UInt8.toNat_ofNat', Nat.mod_eq_of_lt hn]
      exact_mod_cast h
  have e1 := h 32 (by decide)
  have e2 := h 9 (by decide)
  have e3 := h 13 (by decide)
  have e4 := h 10 (by decide)
  rw [show cs = [32, 9, 13, 10] from rfl]
  simp only [List.contains_cons, List.contains_nil, Bool.or_false]
  rw [show (32 : UInt8) = UInt8.ofNat 32 from rfl, show (9 : UInt8) = UInt8.ofNat 9 from rfl, show (13 : UInt8) = UInt8.ofNat 13 from rfl, show (10 : UInt8) = UInt8.ofNat 10 from rfl, e1, e2, e3, e4]
  simp [Bool.or_assoc]

theorem space (c : UInt8) (w : World) :
    Calls Tryd.prog 8 #[.int .u8 (c.toNat : Int)] w fun e w' => e = .returned (.bool (cs.contains c)) ∧ w = w' := by
  have hb := is_cs c
  generalize hcc : cs.contains c = r at *
  by_cases h1 : (c.toNat : Int) = 32
  · have e1 : ((c.toNat : Int) == 32) = true := beq_iff_eq.2 h1
    rw [e1] at hb
    simp at hb
    subst hb
    go_enter Tryd.func8, Tryd.ntmps8
    go_wp2
    go_ret
    exact ⟨rfl, rfl⟩
  have e1 : ((c.toNat : Int) == 32) = false := beq_eq_false_iff_ne.2 h1
  by_cases h2 : (c.toNat : Int) = 9
  · have e2 : ((c.toNat : Int) == 9) = true := beq_iff_eq.2 h2
    rw [e1, e2] at hb
    simp at hb
    subst hb
    go_enter Tryd.func8, Tryd.ntmps8
    go_wp2
    go_ret
    exact ⟨rfl, rfl⟩
  have e2 : ((c.toNat : Int) == 9) = false := beq_eq_false_iff_ne.2 h2
  by_cases h3 : (c.toNat : Int) = 13
  · have e3 : ((c.toNat : Int) == 13) = true := beq_iff_eq.2 h3
    rw [e1, e2, e3] at hb
    simp at hb
    subst hb
    go_enter Tryd.func8, Tryd.ntmps8
    go_wp2
    go_ret
    exact ⟨rfl, rfl⟩
  have e3 : ((c.toNat : Int) == 13) = false := beq_eq_false_iff_ne.2 h3
  by_cases h4 : (c.toNat : Int) = 10
  · have e4 : ((c.toNat : Int) == 10) = true := beq_iff_eq.2 h4
    rw [e1, e2, e3, e4] at hb
    simp at hb
    subst hb
    go_enter Tryd.func8, Tryd.ntmps8
    go_wp2
    go_ret
    exact ⟨rfl, rfl⟩
  have e4 : ((c.toNat : Int) == 10) = false := beq_eq_false_iff_ne.2 h4
  rw [e1, e2, e3, e4] at hb
  simp at hb
  subst hb
  go_enter Tryd.func8, Tryd.ntmps8
  go_wp2
  go_ret
  exact ⟨rfl, rfl⟩

def Sp (s : ByteArray) (f t : Nat) : Prop := ∀ j (h : j < s.size), f ≤ j → j < t → cs.contains s[j] = true
open Classical in
noncomputable def spB (s : ByteArray) (f t : Nat) : Bool := decide (Sp s f t)
open Classical in
theorem spB_true {s : ByteArray} {f t : Nat} (h : Sp s f t) : spB s f t = true := by unfold spB; exact decide_eq_true h
open Classical in
theorem spB_false {s : ByteArray} {f t : Nat} (h : ¬ Sp s f t) : spB s f t = false := by unfold spB; exact decide_eq_false h
theorem space_t (c : UInt8) (h : cs.contains c = true) (w : World) : Calls Tryd.prog 8 #[.int .u8 (c.toNat : Int)] w fun e w' => e = .returned (.bool true) ∧ w = w' := by
  have := space c w
  rwa [h] at this
theorem space_f (c : UInt8) (h : ¬ cs.contains c = true) (w : World) : Calls Tryd.prog 8 #[.int .u8 (c.toNat : Int)] w fun e w' => e = .returned (.bool false) ∧ w = w' := by
  have := space c w
  rwa [Bool.eq_false_iff.2 h] at this

theorem all (s : ByteArray) (f t : Nat) (hf : f ≤ t) (ht : t ≤ s.size) (hm : s.size ≤ 4096) (w : World) :
    Calls Tryd.prog 6 #[.string s, .int .i64 (f : Int), .int .i64 (t : Int)] w fun e w' => e = .returned (.bool (spB s f t)) ∧ w = w' := by
  go_enter Tryd.func6, Tryd.ntmps6
  go_wp2
  go_loop [7] (fun v => ∃ k : Nat, f ≤ k ∧ k ≤ t ∧ v = .int .i64 (k : Int) ∧ Hid (Sp s f k)) (fun v => t - (intOf v).toNat)
  case atStart => exact ⟨f, Nat.le_refl _, hf, rfl, Lib.hid fun j h h1 h2 => by omega⟩
  case round =>
    obtain ⟨k, hk, hkt, rfl, hS⟩ := hrel
    by_cases hlt : k < t
    · have hlt2 : k < s.size := by omega
      by_cases hc : cs.contains s[k] = true
      · have HN := Lib.hid (show Sp s f (k + 1) from fun j h h1 h2 => by
          by_cases hj : j = k
          · subst hj; exact hc
          · exact hS.out j h h1 (by omega))
        have HC := Lib.hid hc
        clear hc
        go_wp2_with fail
        refine (space_t s[k] HC.out w).mono ?_
        rintro e w' ⟨rfl, rfl⟩
        go_wp2
        go_round
        case rel => exact ⟨k + 1, by omega, by omega, by go_num, HN⟩
        case measure => simp [intOf]; omega
      · have HN := Lib.hid (spB_false fun h : Sp s f t => hc (h k hlt2 hk hlt))
        have HC := Lib.hid hc
        clear hc
        go_wp2_with fail
        refine (space_f s[k] HC.out w).mono ?_
        rintro e w' ⟨rfl, rfl⟩
        go_wp2
        go_ret
        exact ⟨by rw [HN.out]; rfl, rfl⟩
    · obtain rfl : k = t := by omega
      have HN := Lib.hid (spB_true hS.out)
      go_wp2
      go_ret
      exact ⟨by rw [HN.out]; rfl, rfl⟩
end Go.Proofs.YtolphikbppmobaaDoor.mv
