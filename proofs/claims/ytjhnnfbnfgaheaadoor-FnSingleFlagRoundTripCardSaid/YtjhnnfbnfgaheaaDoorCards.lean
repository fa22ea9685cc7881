/-
  DERIVED. GIVEN WITH THE SEED: THE CARDS: each row of YtjhnnfbnfgaheaaDoorRows.lean that lists a variable, with what it lists TIED to the program's text (the seventh form; the later family's looks); each row that meets fmt, with fmt's text TOLD by the authors' own Lean function (tested against real Go, not proved from fmt's source: count such statements apart). THE CARD IS WHAT COUNTS. Prove the row's statement (the work); the ties are given (YtjhnnfbnfgaheaaDoorTie.lean); close each card by the builder's one call (the guide's Derived/Test/ToyasCard.lean, 'card_holds'). Laid BY PROGRAM, IN A SANDBOX (cutbox-door.mjs). By AI agents, Wed Nov 11 2026. No macro, syntax, notation, axiom, sorry.
-/
import Derived.Test.YtjhnnfbnfgaheaaDoorRows
import GoSem.ClaimSeven
namespace Go.Proofs.YtjhnnfbnfgaheaaDoor
namespace Rows

/-- THE TIED CARD OF 'n010_88.FnSingleFlagRoundTrip'. -/
def fnSingleFlagRoundTripCard : Claim7 := { stood := { row := fnSingleFlagRoundTripRow, standIns := [], harness := (true, "b22127cc0d07edad890897c692a1f92646b0681a69476af1ada450d5202b4067"), looks := false }, kinds := [], alts := [], laidByText := true, laidKinds := [.data], laidTests := true, laidLooks := .later }
def FnSingleFlagRoundTripCardSaid : Prop := Claim7.holds Tryd.pinned (.plain (OpenSpec.ofChange fnSingleFlagRoundTripSpec)) fnSingleFlagRoundTripCard

/-- THE SECOND FORM's CARD OF 'n010_88.FnSingleFlagRoundTrip'. -/
def fnSingleFlagRoundTripUptoCard : Claim7 := { stood := { row := fnSingleFlagRoundTripUptoRow, standIns := [], harness := (true, "b22127cc0d07edad890897c692a1f92646b0681a69476af1ada450d5202b4067"), looks := false }, kinds := [], alts := [], laidByText := true, laidKinds := [.data], laidTests := true, laidLooks := .later }
def FnSingleFlagRoundTripUptoCardSaid : Prop := Claim7.holds Tryd.pinned (.plain (OpenSpec.upto fnSingleFlagRoundTripSpec)) fnSingleFlagRoundTripUptoCard
end Rows
end Go.Proofs.YtjhnnfbnfgaheaaDoor
