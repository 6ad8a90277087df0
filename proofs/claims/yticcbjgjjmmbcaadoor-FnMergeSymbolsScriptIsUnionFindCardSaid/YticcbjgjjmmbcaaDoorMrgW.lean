/-
  MergeContentsWith over this seat's program: it adds the old symbol's use count to the new one's.
  Conditions: both symbols lie in the map, without flags.
-/
import Derived.Test.YticcbjgjjmmbcaaDoorFollow
import Derived.Test.YticcbjgjjmmbcaaDoorMerge
import Derived.RegionTactic
import Derived.ChangeAlike
namespace Go.Proofs.YticcbjgjjmmbcaaDoor.arena
open Go.ChangeShapes Go.WideShapes Go.ChangeAt Go.RowKit
open kit chain

/-- a symbol's use count written -/
theorem Arena.putU {w : World} {g : Nat} {bk : Nat → Nat} {S : Nat} {σ : Tab} (h : Arena w g bk S σ) {p : Ref} (hp : Valid S σ p) (u : Nat) : Arena (w.setCell ⟨bk p.1, p.2 * 10 + 4, none⟩ (.int .u32 (u : Int))) g bk S (putU σ p u) := by
  have hlen : ∀ s, (chain.putU σ p u s).length = (σ s).length := putU_length σ p u
  have hne := h.ne hp.1
  refine ⟨?_, fun s hs => ?_, h.apart, h.fit.1, fun s => by rw [hlen]; exact h.fit.2 s⟩
  · have e : rows S bk (chain.putU σ p u) = rows S bk σ := by simp only [rows, hlen]
    rw [e]
    exact h.outer.far hne _
  · by_cases hsp : s = p.1
    · subst hsp
      have e : chain.putU σ p u p.1 = (σ p.1).set p.2 (setU (symAt σ p) u) := by simp [chain.putU]
      rw [e]
      have h1 := (h.inner p.1 hp.1).set (p.2 * 10 + 4) (.int .u32 (u : Int))
      rw [cellsOf_set (σ p.1) p.2 4 (.int .u32 (u : Int)) (setU (symAt σ p) u) hp.2 (by omega) rfl] at h1
      exact h1
    · have e : chain.putU σ p u s = σ s := by simp [chain.putU, hsp]
      rw [e]
      have hb : bk s ≠ bk p.1 := fun e => hsp (h.apart s p.1 hs hp.1 e)
      exact (h.inner s hs).far hb _
theorem Arena.use4 {w : World} {g : Nat} {bk : Nat → Nat} {S : Nat} {σ : Tab} (h : Arena w g bk S σ) {p : Ref} (hp : Valid S σ p) : w.cell? ⟨bk p.1, p.2 * 10 + 4, none⟩ = some (.int .u32 ((symAt σ p).use : Int)) := by rw [h.sym hp (by omega)]; rfl
theorem Arena.flags7 {w : World} {g : Nat} {bk : Nat → Nat} {S : Nat} {σ : Tab} (h : Arena w g bk S σ) {p : Ref} (hp : Valid S σ p) (hf : (symAt σ p).flags = 0) : w.cell? ⟨bk p.1, p.2 * 10 + 7, none⟩ = some (.int .u16 0) := by rw [h.sym hp (by omega)]; simp [cells1, hf]

theorem has0 (k : Int) (hk : bits .and .u16 0 k = 0) (w : World) : Calls Tryd.prog 32 #[.int .u16 0, .int .u16 k] w fun e w' => e = .returned (.bool false) ∧ w = w' := by
  go_enter Tryd.func32, Tryd.ntmps32
  go_wp2
  go_ret
  exact ⟨rfl, rfl⟩

set_option maxHeartbeats 4000000 in
theorem contents (w : World) (g : Nat) (bk : Nat → Nat) (S : Nat) (σ : Tab) (n o : Ref) (h : Arena w g bk S σ) (hn : Valid S σ n) (ho : Valid S σ o) (fn : (symAt σ n).flags = 0) (fo : (symAt σ o).flags = 0) :
    Calls Tryd.prog 30 #[.pointer (some ⟨bk n.1, n.2 * 10, none⟩), .pointer (some ⟨bk o.1, o.2 * 10, none⟩)] w fun e w' => e = .returned (.tuple #[]) ∧ Arena w' g bk S (putU σ n (((symAt σ n).use + (symAt σ o).use) % 4294967296)) ∧ Turn w w' bk S := by
  have c4 := h.use4 hn
  have d4 := h.use4 ho
  have f4 := h.free hn (n.2 * 10 + 4)
  have c7 := h.flags7 hn fn
  have d7 := h.flags7 ho fo
  have H1 := Lib.hid (has0 1 (by decide))
  have H2 := Lib.hid (has0 2 (by decide))
  have ha := h.putU hn (((symAt σ n).use + (symAt σ o).use) % 4294967296)
  have e : ((((symAt σ n).use + (symAt σ o).use) % 4294967296 : Nat) : Int) = (((symAt σ n).use : Int) + ((symAt σ o).use : Int)) % 4294967296 := by omega
  rw [e] at ha
  have HA := Lib.hid ha
  have HT := Lib.hid (fun u => (Turn.refl w bk S).setSym hn.1 (n.2 * 10 + 4) u)
  clear ha e
  clear h hn ho fn fo
  generalize (symAt σ n).use = un at *
  generalize (symAt σ o).use = uo at *
  generalize bk n.1 = bn at *
  generalize bk o.1 = bo at *
  generalize n.2 = pn at *
  generalize o.2 = po at *
  go_enter Tryd.func30, Tryd.ntmps30
  go_wp2
  go_region
  go_wp2_with fail
  refine (H1.out _).mono ?_
  rintro e w2 ⟨rfl, rfl⟩
  go_wp2_with fail
  refine (H2.out _).mono ?_
  rintro e w2 ⟨rfl, rfl⟩
  go_wp2_with fail
  go_end0
  exact ⟨rfl, HA.out.kept (Kept.refl _).drew, (HT.out _).drew⟩
end Go.Proofs.YticcbjgjjmmbcaaDoor.arena
