/-
  FollowAllSymbols over this seat's program: afterwards each chain's end has no link, and every other symbol is linked straight to its chain's end.
  Conditions: every chain of the map ends; ast.InvalidRef holds its initial value.
-/
import Derived.Test.YticcbjgjjmmbcaaDoorFollow
import Derived.LoopTactic
namespace Go.Proofs.YticcbjgjjmmbcaaDoor.arena
open Go.ChangeShapes Go.WideShapes Go.ChangeAt Go.RowKit
open kit chain

def flat (ρ : Ref → Ref) (p : Ref) : Ref := if ρ p = p then inv else ρ p
/-- τ has σ's shape and σ's chains' ends; what lies in D is linked straight -/
structure Good (S : Nat) (σ : Tab) (ρ : Ref → Ref) (τ : Tab) (D : Ref → Prop) : Prop where
  len : ∀ s, (τ s).length = (σ s).length
  ends : ∀ p, Valid S σ p → ∃ d, Chain S τ d p (ρ p)
  done : ∀ p, Valid S σ p → D p → lnk τ p = flat ρ p
theorem Good.valid {S : Nat} {σ : Tab} {ρ : Ref → Ref} {τ : Tab} {D : Ref → Prop} (h : Good S σ ρ τ D) {p : Ref} : Valid S τ p ↔ Valid S σ p := by unfold Valid; rw [h.len]
theorem Good.step {S : Nat} {σ : Tab} {ρ : Ref → Ref} {τ : Tab} {D : Ref → Prop} (h : Good S σ ρ τ D) (hρ : ∀ p, Valid S σ p → ρ p ≠ inv) {p : Ref} (hp : Valid S σ p) {d : Nat} (hd : Chain S τ d p (ρ p)) (D2 : Ref → Prop) (hD : ∀ x, D2 x → D x ∨ x = p) :
    Good S σ ρ (relink τ (path τ d p) (ρ p)) D2 := by
  refine ⟨fun s => by rw [relink_length, h.len], fun x hx => ?_, fun x hx hdx => ?_⟩
  · obtain ⟨e, he⟩ := h.ends x hx
    exact Chain.after hd he (hρ p hp)
  · rw [relink_lnk τ _ _ (h.valid.2 hx)]
    by_cases hm : x ∈ path τ d p
    · rw [if_pos hm]
      obtain ⟨e, he, hc⟩ := Chain.of_mem hd hm
      obtain ⟨e2, he2⟩ := h.ends x hx
      obtain ⟨h1, h2⟩ := Chain.uniq hc he2
      have hne : ρ x ≠ x := fun e3 => by
        rw [e3] at he2
        have := (Chain.uniq he2 (Chain.root he2)).1
        omega
      rw [flat, if_neg hne, h2]
    · rw [if_neg hm]
      rcases hD x hdx with h1 | rfl
      · exact h.done x hx h1
      · cases d with
        | zero => rw [hd.2.1, flat, if_pos hd.2.2.symm]
        | succ d => exact absurd List.mem_cons_self hm
def Dn (k j : Nat) (p : Ref) : Prop := p.1 < k ∨ (p.1 = k ∧ p.2 < j)

def AllOk (w : World) (g : Nat) (bk : Nat → Nat) (S : Nat) (σ : Tab) (ρ : Ref → Ref) (e : Ending) (w' : World) : Prop :=
  ∃ τ, e = .returned (.tuple #[]) ∧ Arena w' g bk S τ ∧ Good S σ ρ τ (fun _ => True) ∧ Turn w w' bk S
def AllSt (wb wr : World) (g : Nat) (bk : Nat → Nat) (S : Nat) (σ : Tab) (ρ : Ref → Ref) (k j : Nat) : Prop :=
  ∃ τ, Arena wr g bk S τ ∧ Good S σ ρ τ (Dn k j) ∧ Turn wb wr bk S

set_option maxRecDepth 100000 in
set_option maxHeartbeats 8000000 in
theorem allC (w : World) (g : Nat) (bk : Nat → Nat) (S : Nat) (σ : Tab) (ρ : Ref → Ref) (h : Arena w g bk S σ) (hI : Inv w) (hz : ∀ s, s < S → bk s ≠ 0) (hch : ∀ p, Valid S σ p → ∃ d, Chain S σ d p (ρ p)) (hρ : ∀ p, Valid S σ p → ρ p ≠ inv) :
    Calls Tryd.prog 23 #[mapV g S] w (AllOk w g bk S σ ρ) := by
  have hlt : ∀ s, s < S → bk s < w.heap.size := fun s hs => h.lt hs
  have HA := Lib.hid h
  have HI := Lib.hid hI
  have HZ := Lib.hid hz
  have HCH := Lib.hid hch
  have HR := Lib.hid hρ
  have HLT := Lib.hid hlt
  have hS : S ≤ 1048576 := h.fit.1
  have hlen := h.fit.2
  have HLEN := Lib.hid hlen
  have hgl := h.outer.lt
  clear h hI hz hch hρ hlt hlen
  unfold mapV
  go_enter Tryd.func23, Tryd.ntmps23
  go_wp2_with fail
  generalize hq : w.heap.size = q at *
  have HQ := Lib.hid hq
  have HB0 : Hid (Blk (w.alloc (.cells #[.slice (some ⟨g, 0, none⟩) S S] 39)) q 39 [.slice (some ⟨g, 0, none⟩) S S] ∧ Kept w (w.alloc (.cells #[.slice (some ⟨g, 0, none⟩) S S] 39))) := Lib.hid ⟨hq ▸ Blk.new w 39 [.slice (some ⟨g, 0, none⟩) S S], (Kept.refl _).alloc _⟩
  clear hq
  generalize w.alloc (.cells #[.slice (some ⟨g, 0, none⟩) S S] 39) = wb at *
  have HST : Hid (AllSt wb wb g bk S σ ρ 0 0) := Lib.hid ⟨σ, HA.out.kept HB0.out.2, ⟨fun _ => rfl, HCH.out, fun p _ hd => by rcases hd with hd | hd <;> omega⟩, Turn.refl _ _ _⟩
  go_loopw [2, 3, 4, 8] (fun _ _ _ t8 wr => ∃ k : Nat, k ≤ S ∧ t8 = .int .i64 (k : Int) ∧ AllSt wb wr g bk S σ ρ k 0) (fun _ _ _ t _ => S - (intOf t).toNat)
  case atStart => exact ⟨0, by omega, rfl, HST.out⟩
  case round =>
    obtain ⟨k, hk, rfl, hst⟩ := hrel
    have HS0 := Lib.hid hst
    clear hst HST
    by_cases hkl : k < S
    · obtain ⟨τ0, hA0, hG0, hT0⟩ := HS0.out
      have r0 := hA0.row hkl
      rw [hG0.len] at r0
      have hki : (k : Int) < (S : Int) := by omega
      have hkn := HLEN.out k
      clear hA0 hG0 hT0
      generalize hcl : (σ k).length = cl at *
      have HCL := Lib.hid hcl
      clear hcl
      obtain ⟨wo, hwo⟩ : ∃ wo : World, wo = wr := ⟨_, rfl⟩
      subst hwo
      go_wp2_with fail
      go_loopw [4, 15] (fun _ t wr => ∃ j : Nat, j ≤ cl ∧ t = .int .i64 (j : Int) ∧ AllSt wb wr g bk S σ ρ k j) (fun _ t _ => cl - (intOf t).toNat)
      case atStart => exact ⟨0, by omega, rfl, HS0.out⟩
      case round =>
        obtain ⟨j, hj, rfl, hst⟩ := hrel
        have HS1 := Lib.hid hst
        clear hst
        by_cases hjl : j < cl
        · obtain ⟨τ, hA, hG, hT⟩ := HS1.out
          have hv : Valid S σ (k, j) := ⟨hkl, by show j < (σ k).length; rw [HCL.out]; exact hjl⟩
          obtain ⟨d, hd⟩ := hG.ends (k, j) hv
          have x0 : wr.cell? ⟨q, 0, none⟩ = some (.slice (some ⟨g, 0, none⟩) S S) := (hT.blk HB0.out.1 (fun s hs => by have := HLT.out s hs; omega)).cell 0
          have HF := Lib.hid (arena.follow g bk S τ (ρ (k, j)) HZ.out d (k, j) wr hA (hT.inv (HI.out.kept HB0.out.2) HZ.out) hd)
          have HGN := Lib.hid (hG.step HR.out hv hd (Dn k (j + 1)) (fun x hx => by
            rcases hx with hx | ⟨hx, hx2⟩
            · exact .inl (.inl hx)
            · rcases Nat.lt_or_ge x.2 j with hh | hh
              · exact .inl (.inr ⟨hx, hh⟩)
              · exact .inr (Prod.ext hx (by show x.2 = j; omega))))
          have HT := Lib.hid hT
          clear hA hG hT hd
          unfold mapV refV at HF
          simp only at HF
          go_wp2_with fail
          refine HF.out.mono ?_
          rintro e w2 ⟨rfl, hA2, hT2⟩
          have HRR : Hid (∃ p : Nat, p ≤ cl ∧ Value.int .i64 ((j : Int) + 1) = .int .i64 (p : Int) ∧ AllSt wb w2 g bk S σ ρ k p) := Lib.hid ⟨j + 1, by omega, by go_num, _, hA2, HGN.out, HT.out.trans hT2⟩
          clear hA2 hT2
          unfold refV
          go_wp2_with fail
          go_roundw
          case rel => first | exact HRR.out | ((repeat apply Exists.intro); exact ⟨HRR.out, rfl⟩)
          case measure => simp [intOf]; omega
        · obtain rfl : j = cl := by omega
          have HRR : Hid (∃ p : Nat, p ≤ S ∧ Value.int .i64 ((k : Int) + 1) = .int .i64 (p : Int) ∧ AllSt wb wr g bk S σ ρ p 0) := by
            obtain ⟨τ, hA, hG, hT⟩ := HS1.out
            refine Lib.hid ⟨k + 1, by omega, by go_num, τ, hA, ⟨hG.len, hG.ends, fun p hp hd => hG.done p hp ?_⟩, hT⟩
            rcases hd with hd | ⟨_, hd⟩
            · rcases Nat.lt_or_ge p.1 k with hh | hh
              · exact .inl hh
              · have e : p.1 = k := by omega
                exact .inr ⟨e, by have := hp.2; rw [e, HCL.out] at this; exact this⟩
            · omega
          go_wp2_with fail
          go_roundw
          case rel => first | exact HRR.out | ((repeat apply Exists.intro); exact ⟨HRR.out, rfl⟩)
          case measure => simp [intOf]; omega
    · obtain rfl : k = S := by omega
      go_wp2_with fail
      go_end0
      obtain ⟨τ, hA, hG, hT⟩ := HS0.out
      exact ⟨τ, rfl, hA, ⟨hG.len, hG.ends, fun p hp _ => hG.done p hp (.inl hp.1)⟩, (Turn.of_kept HB0.out.2 bk k).trans hT⟩
end Go.Proofs.YticcbjgjjmmbcaaDoor.arena
