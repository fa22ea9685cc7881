/-
  DERIVED. GIVEN WITH THE SEED: THE CARDS: each row of YtcncmbniaabhkaaDoorRows.lean that lists a variable, with what it lists TIED to the program's text (the seventh form; the later family's looks); each row that meets fmt, with fmt's text TOLD by the authors' own Lean function (tested against real Go, not proved from fmt's source: count such statements apart). THE CARD IS WHAT COUNTS. Prove the row's statement (the work); the ties are given (YtcncmbniaabhkaaDoorTie.lean); close each card by the builder's one call (the guide's Derived/Test/ToyasCard.lean, 'card_holds'). Laid BY PROGRAM, IN A SANDBOX (cutbox-door.mjs). By AI agents, Wed Nov 11 2026. No macro, syntax, notation, axiom, sorry.
-/
import Derived.Test.YtcncmbniaabhkaaDoorRows
import GoSem.ClaimSeven
namespace Go.Proofs.YtcncmbniaabhkaaDoor
namespace Rows

/-- THE TIED CARD OF 'n010_163.FnIfsJoinSplitRoundTrip'. -/
def fnIfsJoinSplitRoundTripCard : Claim7 := { stood := { row := fnIfsJoinSplitRoundTripRow, standIns := [], harness := (true, "f2666c3a390442b69f181ae5068e52a3f26a519eba680aca4cd16c99d298f5e5"), looks := false }, kinds := [], alts := [], laidByText := true, laidKinds := [.data, .pinned], laidTests := true, laidLooks := .later }
def FnIfsJoinSplitRoundTripCardSaid : Prop := Claim7.holds Tryd.pinned (.plain (OpenSpec.ofChange fnIfsJoinSplitRoundTripSpec)) fnIfsJoinSplitRoundTripCard

/-- THE SECOND FORM's CARD OF 'n010_163.FnIfsJoinSplitRoundTrip'. -/
def fnIfsJoinSplitRoundTripUptoCard : Claim7 := { stood := { row := fnIfsJoinSplitRoundTripUptoRow, standIns := [], harness := (true, "f2666c3a390442b69f181ae5068e52a3f26a519eba680aca4cd16c99d298f5e5"), looks := false }, kinds := [], alts := [], laidByText := true, laidKinds := [.data, .pinned], laidTests := true, laidLooks := .later }
def FnIfsJoinSplitRoundTripUptoCardSaid : Prop := Claim7.holds Tryd.pinned (.plain (OpenSpec.upto fnIfsJoinSplitRoundTripSpec)) fnIfsJoinSplitRoundTripUptoCard
end Rows
end Go.Proofs.YtcncmbniaabhkaaDoor
