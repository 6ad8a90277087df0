/-
  addExportsForExportStar over this seat's program: the recursion; ZZaddExportsForExportStar.
  Conditions: what Pre says.
-/
import Derived.Test.YtknmcbhcbomjmaaWs
namespace Go.Proofs.Ytknmcbhcbomjmaa.xs
open Go.ChangeShapes Go.WideShapes Go.ChangeAt Go.RowKit
open kit mapv

set_option maxRecDepth 100000 in
theorem star (L : Lay) (s0 : Nat) (A : Apt L) : ∀ (m : Nat) (w : World) (p : List Nat) (s : Nat) (ad : Option Addr) (cap : Nat) (V : ByteArray → Value) (ρ : ByteArray → Option Ent) (R : Nat) (β : Nat → Nat × Nat → Bool) (bn : Nat → Nat),
    L.n ≤ p.length + m → Pre L s0 w p s (.slice ad p.length cap) V ρ R β bn →
    Calls Try.prog 14 #[.pointer (some ⟨L.cb, 0, none⟩), .map (some L.RES), .int .u32 (s : Int), .slice ad p.length cap] w (Post L s0 w p s (.slice ad p.length cap) ρ) := by
  intro m
  induction m with
  | zero =>
    intro w p s ad cap V ρ R β bn hm h
    refine starX L s0 A w p s ad cap V ρ R β bn h fun W t ad2 cap2 V2 ρ2 R2 β2 bn2 hs _ => ?_
    exact absurd (nodup_lt h.nd h.lt h.sn hs) (by omega)
  | succ m ih =>
    intro w p s ad cap V ρ R β bn hm h
    exact starX L s0 A w p s ad cap V ρ R β bn h fun W t ad2 cap2 V2 ρ2 R2 β2 bn2 hs hp => ih W (p ++ [s]) t ad2 cap2 V2 ρ2 R2 β2 bn2 (by simp; omega) hp
end Go.Proofs.Ytknmcbhcbomjmaa.xs
