/-
  No cell of these rows narrows 'for every input' (looked for: loops, veiled, ifaces, maps, wideKeys, modest, calm, conditions, laid).
  DERIVED. THE GIVEN ROWS OF THIS SEAT. 1 by the template 'for every input the law returns true; each argument reads behind the call as it read before'; 0 by the template 'total and deterministic' (their statements: YteoeiklojidgnaaFmtTotals.lean).
  GIVEN WITH THE SEED: the statements are not yours to turn. If you find one false, say at which input.
  Laid BY PROGRAM, IN A SANDBOX (cutbox-rows.mjs): the forced cells as the released guide's own fill.sh prints them over the translation 38f3b0a8e1624cb8… (all of the seat's roots in one cut). By AI agents, Wed Nov 11 2026. No macro, syntax, notation, axiom, sorry.
-/
import Derived.Test.YteoeiklojidgnaaFmtChecked
import GoSem.Claim
import GoSem.ClaimJoined
import GoSem.ClaimMapViews
import Derived.JoinedTies
import Derived.KernelRfl
namespace Go.Proofs.YteoeiklojidgnaaFmt
/- THE CELL 'sum', in the pinned program and in every row, IS THE sha256 OF THE DUMP (.gsa) THAT YteoeiklojidgnaaFmtProg.lean LOADS. Nothing in Lean hashes anything: it is a label: what it is worth is what the hold of that sum in a sandbox is worth. -/
noncomputable def Tryf.pinned : Pinned := { name := "yteoeiklojidgnaafmt", sum := "38f3b0a8e1624cb801fa56bbf6bec28ba25a6b2c4e246c01d8053724fd388187", checked := Tryf.checked }
namespace Rows
def none {H : Type} : Left H := { results := [], args := [] }

/-- 'n011_297.FnUnquotedUTF16UnescapesBack': WHATEVER THE INPUT: true; the input reads as it did. -/
def fnUnquotedUTF16UnescapesBackSpec : ChangeSpec := { name := "fnUnquotedUTF16UnescapesBack", fn := fun _ => fun
  | [d1, d2, d3, d4, d5, d6, d7] => { results := [.lit (.bool true)], args := [d1, d2, d3, d4, d5, d6, d7] }
  | _ => none }
def fnUnquotedUTF16UnescapesBackRow : OpenClaim := { program := "yteoeiklojidgnaafmt", sum := "38f3b0a8e1624cb801fa56bbf6bec28ba25a6b2c4e246c01d8053724fd388187", func := "github.com/evanw/esbuild/n011_297.FnUnquotedUTF16UnescapesBack", spec := "fnUnquotedUTF16UnescapesBack", stops := ["fmt.Sprintf"], inPlace := ["fmt.Sprintf"], plainKeys := false, apart := false }
/-- NO THEOREM (fmt's text is open here; it may be false): for the released tool's asking of the row's closed facts alone. THE STATEMENT IS 'FnUnquotedUTF16UnescapesBackToldSaid' (YteoeiklojidgnaaFmtCards.lean). -/
def FnUnquotedUTF16UnescapesBackFormAsk : Prop := fnUnquotedUTF16UnescapesBackRow.holds Tryf.pinned (OpenSpec.ofChange fnUnquotedUTF16UnescapesBackSpec)

/-- ITS FALSE NEIGHBOUR: 'it returns false'. Refute it at one input. -/
def fnUnquotedUTF16UnescapesBackWrong : ChangeSpec := { name := "fnUnquotedUTF16UnescapesBack", fn := fun _ => fun
  | [d1, d2, d3, d4, d5, d6, d7] => { results := [.lit (.bool false)], args := [d1, d2, d3, d4, d5, d6, d7] }
  | _ => none }
def FnUnquotedUTF16UnescapesBackWrongFormAsk : Prop := fnUnquotedUTF16UnescapesBackRow.holds Tryf.pinned (OpenSpec.ofChange fnUnquotedUTF16UnescapesBackWrong)

end Rows
end Go.Proofs.YteoeiklojidgnaaFmt
