/-
  Two chunks with the same public path and the same piece texts have the same isolated hash of eight bytes, whatever their interior keys are, and repeated waits agree.
  Conditions: none beyond the given card Rows.FnIsolatedHashIgnoresTheKeysBetweenPiecesCardSaid itself (it ties xxhash.prime1v to the program's text; over the pruned copy of the seat).
-/
import Derived.Stop.Joined
import Derived.SliceStrings
import Derived.ShutString
import Derived.OpenVars
import Derived.Test.YtgjhmbbbkkidlaaGreatDoorXr
namespace Go.Proofs.YtgjhmbbbkkidlaaGreatDoor.fnIsolatedHashIgnoresTheKeysBetweenPieces
open Go.ChangeShapes Go.WideShapes Go.ChangeAt Go.RowKit
open Go.ChangeMaps (open_string shut_string)
open Go.Conc (G solo Good base enter_at)
open Go.Proofs.YtgjhmbbbkkidlaaGreatDoor.kit
open Go.Proofs.YtgjhmbbbkkidlaaGreatDoor.hash
theorem enter3 (x : Array Value) (hx : x.size = 6) : Frame.enter Tryz.prog 3 x .normal = fr3 body3 x := by
  rw [enter_at x Tryz.func3 body3_eq, Tryz.ntmps3, hx]
  rfl
set_option maxRecDepth 100000 in
theorem lifted (os : Os) (started : os.Started) (H : Type) (enc : TypeId × Value → H) :
    ReturnsInLeavingWide {} Tryz.checked os 3 .any (fun w args => (Rows.fnIsolatedHashIgnoresTheKeysBetweenPiecesSpec.pre enc Tryz.prog Tryz.f3 [] false w args ∧ laidMetH Tryz.prog Rows.fnIsolatedHashIgnoresTheKeysBetweenPiecesRow.laid w) ∧ sizedMet enc Tryz.prog Tryz.f3 (OpenSpec.ofChange Rows.fnIsolatedHashIgnoresTheKeysBetweenPiecesSpec) false w args) (Rows.fnIsolatedHashIgnoresTheKeysBetweenPiecesSpec.post enc Tryz.prog Tryz.f3 false true false false) := by
  refine returnsInLeavingWide_of_good (C := Tryz.checked) own started
    (ChangeSpec.witness_shaped (enc := enc) (C := Tryz.checked) (os := os) (X := fun w _ => laidMetH Tryz.prog Rows.fnIsolatedHashIgnoresTheKeysBetweenPiecesRow.laid w) false (World.doorLaid Tryz.prog 13 os) #[.string ByteArray.empty, .slice none 0 0, .slice none 0 0, .slice none 0 0, .slice none 0 0, .slice none 0 0] 8 rfl (World.shaped_of_RefB (by kernel_rfl) (by kernel_rfl)) (by kernel_rfl) (by kernel_rfl) (by kernel_rfl) (door_met os _)) ?_
  intro w1 tape i _ hsh _ hok hpre _
  obtain ⟨_, _, _, fn', hfn', _, _, _, _, hval0⟩ := hok
  have e : fn' = Tryz.f3 := Option.some.inj (hfn'.symm.trans Tryz.func3)
  subst e
  obtain ⟨⟨⟨ds, gs, before, hw, _⟩, hx⟩, _⟩ := hpre
  have hW := DataW.Whole.of_heap (w' := w1.forCall tape i) (by rfl) hw
  have hL : laidMetH Tryz.prog Rows.fnIsolatedHashIgnoresTheKeysBetweenPiecesRow.laid (w1.forCall tape i) := hx.of_heap (by rfl)
  generalize w1.forCall tape i = W at hsh hval0 hW hL ⊢
  clear hw hx
  generalize i.args = args at hval0 hW ⊢
  have hval : ∀ (j : Nat) t v, Tryz.f3.params[j]? = some t → args[j]? = some v → Value.okWide Tryz.prog W .any w1.heap.size t v := hval0
  have hW' := hW
  obtain ⟨p, q, hA0, hV, rfl, hfz, hnd⟩ := hW
  have hA : DataW.TrodAll enc Tryz.prog W 0 (fun _ => true) true Tryz.f3.params.toList args.toList ds p := hA0
  rw [Tryz.params3] at hA hval
  obtain ⟨v0, vs0, d0, ds0, p0, q0, hargs, rfl, rfl, h0, r0⟩ := trodAll_cons hA
  obtain ⟨v1, vs1, d1, ds1, p1, q1, rfl, rfl, rfl, h1, r1⟩ := trodAll_cons r0
  obtain ⟨v2, vs2, d2, ds2, p2, q2, rfl, rfl, rfl, h2, r2⟩ := trodAll_cons r1
  obtain ⟨v3, vs3, d3, ds3, p3, q3, rfl, rfl, rfl, h3, r3⟩ := trodAll_cons r2
  obtain ⟨v4, vs4, d4, ds4, p4, q4, rfl, rfl, rfl, h4, r4⟩ := trodAll_cons r3
  obtain ⟨v5, vs5, d5, ds5, p5, q5, rfl, rfl, rfl, h5, r5⟩ := trodAll_cons r4
  obtain ⟨rfl, rfl, rfl⟩ := trodAll_nil r5
  obtain rfl : args = #[v0, v1, v2, v3, v4, v5] := by cases args; simp_all
  have hV2 := hV
  obtain ⟨gv, tv, csv, fuelv, dv, pv, rfl, hgv, htv, hvv, hdv, hqv⟩ := trodVars_one hV
  obtain ⟨a0, rfl, rfl, rfl, w0⟩ := open_string Tryz.underlying9 (hval 0 9 v0 rfl rfl) h0
  obtain ⟨a1, len1, cap1, rfl⟩ := okWide_slice Tryz.underlying22 (hval 1 22 v1 rfl rfl)
  have k1 := h1
  have lt1 : ∀ x ∈ p1, x.block < W.heap.size := by obtain ⟨m, hm⟩ := k1; exact DataW.trod_lt m _ _ _ hm
  obtain ⟨ls, rows, s1⟩ := open_rows h1
  obtain ⟨a2, len2, cap2, rfl⟩ := okWide_slice Tryz.underlying23 (hval 2 23 v2 rfl rfl)
  have k2 := h2
  have lt2 : ∀ x ∈ p2, x.block < W.heap.size := by obtain ⟨m, hm⟩ := k2; exact DataW.trod_lt m _ _ _ hm
  obtain ⟨z2, w2, s2⟩ := open_u (k := .u32) Tryz.underlying23 Tryz.underlying37 (by kernel_rfl) h2
  obtain ⟨a3, len3, cap3, rfl⟩ := okWide_slice Tryz.underlying24 (hval 3 24 v3 rfl rfl)
  have k3 := h3
  have lt3 : ∀ x ∈ p3, x.block < W.heap.size := by obtain ⟨m, hm⟩ := k3; exact DataW.trod_lt m _ _ _ hm
  obtain ⟨z3, w3, s3⟩ := open_u (k := .u8) Tryz.underlying24 Tryz.underlying5 (by kernel_rfl) h3
  obtain ⟨a4, len4, cap4, rfl⟩ := okWide_slice Tryz.underlying23 (hval 4 23 v4 rfl rfl)
  have k4 := h4
  have lt4 : ∀ x ∈ p4, x.block < W.heap.size := by obtain ⟨m, hm⟩ := k4; exact DataW.trod_lt m _ _ _ hm
  obtain ⟨z4, w4, s4⟩ := open_u (k := .u32) Tryz.underlying23 Tryz.underlying37 (by kernel_rfl) h4
  obtain ⟨a5, len5, cap5, rfl⟩ := okWide_slice Tryz.underlying24 (hval 5 24 v5 rfl rfl)
  have k5 := h5
  have lt5 : ∀ x ∈ p5, x.block < W.heap.size := by obtain ⟨m, hm⟩ := k5; exact DataW.trod_lt m _ _ _ hm
  obtain ⟨z5, w5, s5⟩ := open_u (k := .u8) Tryz.underlying24 Tryz.underlying5 (by kernel_rfl) h5
  clear hA0 hval0
  have inp : Inp W a1 a2 a3 a4 a5 len1 cap1 len2 len3 len4 len5 cap2 cap3 cap4 cap5 ls z2 z3 z4 z5 := ⟨row0 hsh, of_laid hL, rows, w2, w3, w4, w5, s1, s2, s3, s4, s5⟩
  obtain ⟨M, last, o, w', t', e1, e2, e3, e4⟩ := run_ends (path := a0) inp
  rw [← enter3 _ rfl] at e1 e2
  refine ⟨M, last, o, w', t', e1, e2, e3, e4.mono fun v hF => ?_⟩
  obtain ⟨rfl, hos, hout, hblk⟩ := hF
  have hsz : W.heap.size ≤ w'.heap.size := by
    cases hs : W.heap.size with
    | zero => exact Nat.zero_le _
    | succ n =>
      have := hblk n _ (Array.getElem?_eq_getElem (by omega))
      exact (Array.getElem?_eq_some_iff.1 this).1
  have bel : Below W.heap.size W { w' with tape := W.tape } := ⟨hos, rfl, hout, hsz, fun k hk => by
    have := hblk k _ (Array.getElem?_eq_getElem hk)
    rw [Array.getElem?_eq_getElem hk]
    exact this⟩
  exact ChangeSpec.post_blind (W' := { w' with tape := W.tape }) ⟨_, _, _, [], _, _, hW', trodAll_mk1 (shut_bool Tryz.underlying4 _), (trodAll_cons_mk (shut_string Tryz.underlying9 w0) (trodAll_cons_mk (Below.trod laidOut (by kernel_rfl) (of_decide_eq_true (by kernel_rfl)) k1 bel lt1) (trodAll_cons_mk (Below.trod laidOut (by kernel_rfl) (of_decide_eq_true (by kernel_rfl)) k2 bel lt2) (trodAll_cons_mk (Below.trod laidOut (by kernel_rfl) (of_decide_eq_true (by kernel_rfl)) k3 bel lt3) (trodAll_cons_mk (Below.trod laidOut (by kernel_rfl) (of_decide_eq_true (by kernel_rfl)) k4 bel lt4) (trodAll_cons_mk (Below.trod laidOut (by kernel_rfl) (of_decide_eq_true (by kernel_rfl)) k5 bel lt5) trodAll_mk0)))))), Below.trodVars laidOut bel (by kernel_rfl) hV2, bel.frame _, fun h => by cases h⟩
end Go.Proofs.YtgjhmbbbkkidlaaGreatDoor.fnIsolatedHashIgnoresTheKeysBetweenPieces
