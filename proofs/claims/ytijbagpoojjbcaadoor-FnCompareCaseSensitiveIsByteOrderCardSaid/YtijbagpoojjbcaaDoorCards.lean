/-
  DERIVED. GIVEN WITH THE SEED: THE CARDS: each row of YtijbagpoojjbcaaDoorRows.lean that lists a variable, with what it lists TIED to the program's text (the seventh form; the later family's looks); each row that meets fmt, with fmt's text TOLD by the authors' own Lean function (tested against real Go, not proved from fmt's source: count such statements apart). THE CARD IS WHAT COUNTS. Prove the row's statement (the work); the ties are given (YtijbagpoojjbcaaDoorTie.lean); close each card by the builder's one call (the guide's Derived/Test/ToyasCard.lean, 'card_holds'). Laid BY PROGRAM, IN A SANDBOX (cutbox-door.mjs). By AI agents, Wed Nov 11 2026. No macro, syntax, notation, axiom, sorry.
-/
import Derived.Test.YtijbagpoojjbcaaDoorRows
import GoSem.ClaimSeven
namespace Go.Proofs.YtijbagpoojjbcaaDoor
namespace Rows

/-- THE TIED CARD OF 'n010_50.FnCompareCaseSensitiveIsByteOrder'. -/
def fnCompareCaseSensitiveIsByteOrderCard : Claim7 := { stood := { row := fnCompareCaseSensitiveIsByteOrderRow, standIns := [], harness := (true, "2b4449aa31db455ff4cb8cde94c630e2abe5be59439f3bbae0966fb467c5c5ae"), looks := false }, kinds := [], alts := [], laidByText := true, laidKinds := [.data, .pinned, .pinned], laidTests := true, laidLooks := .later }
def FnCompareCaseSensitiveIsByteOrderCardSaid : Prop := Claim7.holds Tryd.pinned (.plain (OpenSpec.ofChange fnCompareCaseSensitiveIsByteOrderSpec)) fnCompareCaseSensitiveIsByteOrderCard

/-- THE SECOND FORM's CARD OF 'n010_50.FnCompareCaseSensitiveIsByteOrder'. -/
def fnCompareCaseSensitiveIsByteOrderUptoCard : Claim7 := { stood := { row := fnCompareCaseSensitiveIsByteOrderUptoRow, standIns := [], harness := (true, "2b4449aa31db455ff4cb8cde94c630e2abe5be59439f3bbae0966fb467c5c5ae"), looks := false }, kinds := [], alts := [], laidByText := true, laidKinds := [.data, .pinned, .pinned], laidTests := true, laidLooks := .later }
def FnCompareCaseSensitiveIsByteOrderUptoCardSaid : Prop := Claim7.holds Tryd.pinned (.plain (OpenSpec.upto fnCompareCaseSensitiveIsByteOrderSpec)) fnCompareCaseSensitiveIsByteOrderUptoCard
end Rows
end Go.Proofs.YtijbagpoojjbcaaDoor
