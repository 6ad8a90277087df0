/-
  DERIVED. GIVEN WITH THE SEED: THE PROGRAM's TIES (one call each: nine closed facts by the kernel) AND EACH ROW's TIE, after the 31st guide's Derived/Test/Toyas{Tie, Card}.lean. No idea stands in it: it is a product of the set-up. Laid BY PROGRAM, IN A SANDBOX (cutbox-door.mjs). By AI agents, Wed Nov 11 2026. No macro, syntax, notation, axiom, sorry.
-/
import Derived.Test.YtgjhmbbbkkidlaaGreatDoorRows
import Derived.LaidByTextLater
import Derived.SevenTiedAt
import Derived.LaidSub
import Derived.LaidOnce
namespace Go.Proofs.YtgjhmbbbkkidlaaGreatDoor
open Go
set_option maxRecDepth 100000
theorem seatTie1 : Tryz.prog.laidByTextLater [("github.com/evanw/esbuild/internal/xxhash.prime1v", Rows.laid_github_com_evanw_esbuild_internal_xxhash_prime1v)] [.data] true :=
  Program.laidByTextLater_by_one 13 8 2 (by kernel_rfl) (by kernel_rfl) (by kernel_rfl) (by kernel_rfl) (by kernel_rfl) (by kernel_rfl) (fun _ _ => by kernel_rfl)
theorem noOwnUnsafe : Tryz.pinned.checked.prog.headLifts.contains "ownunsafe" = false := by kernel_rfl
theorem tie : Tryz.prog.laidByTextLater [("github.com/evanw/esbuild/internal/xxhash.prime1v", Rows.laid_github_com_evanw_esbuild_internal_xxhash_prime1v)] [.data] true :=
  Program.laidByTextLater.sub seatTie1 ["github.com/evanw/esbuild/internal/xxhash.prime1v"] (by kernel_rfl) (by kernel_rfl)
theorem fnIsolatedHashIgnoresTheKeysBetweenPieces_row_tie : Rows.fnIsolatedHashIgnoresTheKeysBetweenPiecesRow.laidByTextAt .later Tryz.pinned [.data] true :=
  OpenClaim.laidByTextAt_later rfl rfl tie noOwnUnsafe
theorem fnIsolatedHashIgnoresTheKeysBetweenPiecesUpto_row_tie : Rows.fnIsolatedHashIgnoresTheKeysBetweenPiecesUptoRow.laidByTextAt .later Tryz.pinned [.data] true :=
  OpenClaim.laidByTextAt_later rfl rfl tie noOwnUnsafe
end Go.Proofs.YtgjhmbbbkkidlaaGreatDoor
