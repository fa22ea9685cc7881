/-
  DERIVED. GIVEN WITH THE SEED: THE CARDS: each row of YtgggpdkljkbmkaaFmtRows.lean that lists a variable, with what it lists TIED to the program's text (the seventh form; the later family's looks); each row that meets fmt, with fmt's text TOLD by the authors' own Lean function (tested against real Go, not proved from fmt's source: count such statements apart). THE CARD IS WHAT COUNTS. Prove the row's statement (the work); the ties are given (YtgggpdkljkbmkaaFmtTie.lean); close each card by the builder's one call (the guide's Derived/Test/ToyasCard.lean, 'card_holds'). Laid BY PROGRAM, IN A SANDBOX (cutbox-door.mjs). By AI agents, Wed Nov 11 2026. No macro, syntax, notation, axiom, sorry.
-/
import Derived.Test.YtgggpdkljkbmkaaFmtRows
import GoSem.ClaimSeven
namespace Go.Proofs.YtgggpdkljkbmkaaFmt
namespace Rows

/-- THE TOLD CARD OF 'n010_137.FnBinAritDivisionOrderPowerLaws'. -/
def fnBinAritDivisionOrderPowerLawsCard : Claim7 := { stood := { row := fnBinAritDivisionOrderPowerLawsRow, standIns := [], harness := (true, "9fac23a66998727bb9363af68ba2c3f528a2bbc61cbce0b46a3d5521c25a784e"), looks := false }, told := true, goes := false }
def FnBinAritDivisionOrderPowerLawsToldSaid : Prop := Claim7.holds Tryf.pinned (.plain (OpenSpec.ofChange fnBinAritDivisionOrderPowerLawsSpec)) fnBinAritDivisionOrderPowerLawsCard
/-- ITS FALSE NEIGHBOUR. Refute it at one input. -/
def FnBinAritDivisionOrderPowerLawsToldWrongFalsely : Prop := Claim7.holds Tryf.pinned (.plain (OpenSpec.ofChange fnBinAritDivisionOrderPowerLawsWrong)) fnBinAritDivisionOrderPowerLawsCard
end Rows
end Go.Proofs.YtgggpdkljkbmkaaFmt
