/-
  No cell of these rows narrows 'for every input' (looked for: loops, veiled, ifaces, maps, wideKeys, modest, calm, conditions, laid).
  DERIVED. THE GIVEN ROWS OF THIS SEAT. 1 by the template 'for every input the law returns true; each argument reads behind the call as it read before'; 0 by the template 'total and deterministic' (their statements: YtgggpdkljkbmkaaFmtTotals.lean).
  GIVEN WITH THE SEED: the statements are not yours to turn. If you find one false, say at which input.
  Laid BY PROGRAM, IN A SANDBOX (cutbox-rows.mjs): the forced cells as the released guide's own fill.sh prints them over the translation 4fc1a3cbd3c9fbd7… (all of the seat's roots in one cut). By AI agents, Wed Nov 11 2026. No macro, syntax, notation, axiom, sorry.
-/
import Derived.Test.YtgggpdkljkbmkaaFmtChecked
import GoSem.Claim
import GoSem.ClaimJoined
import GoSem.ClaimMapViews
import Derived.JoinedTies
import Derived.KernelRfl
namespace Go.Proofs.YtgggpdkljkbmkaaFmt
/- THE CELL 'sum', in the pinned program and in every row, IS THE sha256 OF THE DUMP (.gsa) THAT YtgggpdkljkbmkaaFmtProg.lean LOADS. Nothing in Lean hashes anything: it is a label: what it is worth is what the hold of that sum in a sandbox is worth. -/
noncomputable def Tryf.pinned : Pinned := { name := "ytgggpdkljkbmkaafmt", sum := "4fc1a3cbd3c9fbd7ff1c2c62e860e1c1fbecab02bf01c1e519feff8e7777cab9", checked := Tryf.checked }
namespace Rows
def none {H : Type} : Left H := { results := [], args := [] }

/-- 'n010_137.FnBinAritDivisionOrderPowerLaws': WHATEVER THE INPUT: true; the input reads as it did. -/
def fnBinAritDivisionOrderPowerLawsSpec : ChangeSpec := { name := "fnBinAritDivisionOrderPowerLaws", fn := fun _ => fun
  | [d1, d2, d3, d4] => { results := [.lit (.bool true)], args := [d1, d2, d3, d4] }
  | _ => none }
def fnBinAritDivisionOrderPowerLawsRow : OpenClaim := { program := "ytgggpdkljkbmkaafmt", sum := "4fc1a3cbd3c9fbd7ff1c2c62e860e1c1fbecab02bf01c1e519feff8e7777cab9", func := "mvdan.cc/sh/v3/n010_137.FnBinAritDivisionOrderPowerLaws", spec := "fnBinAritDivisionOrderPowerLaws", stops := ["fmt.errorf, its operands' methods called"], inPlace := ["fmt.errorf"], unfollowed := true, recurses := true, apart := false }
/-- NO THEOREM (fmt's text is open here; it may be false): for the released tool's asking of the row's closed facts alone. THE STATEMENT IS 'FnBinAritDivisionOrderPowerLawsToldSaid' (YtgggpdkljkbmkaaFmtCards.lean). -/
def FnBinAritDivisionOrderPowerLawsFormAsk : Prop := fnBinAritDivisionOrderPowerLawsRow.holds Tryf.pinned (OpenSpec.ofChange fnBinAritDivisionOrderPowerLawsSpec)

/-- ITS FALSE NEIGHBOUR: 'it returns false'. Refute it at one input. -/
def fnBinAritDivisionOrderPowerLawsWrong : ChangeSpec := { name := "fnBinAritDivisionOrderPowerLaws", fn := fun _ => fun
  | [d1, d2, d3, d4] => { results := [.lit (.bool false)], args := [d1, d2, d3, d4] }
  | _ => none }
def FnBinAritDivisionOrderPowerLawsWrongFormAsk : Prop := fnBinAritDivisionOrderPowerLawsRow.holds Tryf.pinned (OpenSpec.ofChange fnBinAritDivisionOrderPowerLawsWrong)

end Rows
end Go.Proofs.YtgggpdkljkbmkaaFmt
