/-
  DERIVED. GIVEN WITH THE SEED: THE CARDS: each row of YtcemogndiblooaaDoorRows.lean that lists a variable, with what it lists TIED to the program's text (the seventh form; the later family's looks); each row that meets fmt, with fmt's text TOLD by the authors' own Lean function (tested against real Go, not proved from fmt's source: count such statements apart). THE CARD IS WHAT COUNTS. Prove the row's statement (the work); the ties are given (YtcemogndiblooaaDoorTie.lean); close each card by the builder's one call (the guide's Derived/Test/ToyasCard.lean, 'card_holds'). Laid BY PROGRAM, IN A SANDBOX (cutbox-door.mjs). By AI agents, Wed Nov 11 2026. No macro, syntax, notation, axiom, sorry.
-/
import Derived.Test.YtcemogndiblooaaDoorRows
import GoSem.ClaimSeven
namespace Go.Proofs.YtcemogndiblooaaDoor
namespace Rows

/-- THE TIED CARD OF 'n010_40.FnIndexedKeysRoundTripThroughIndexedVal'. -/
def fnIndexedKeysRoundTripThroughIndexedValCard : Claim7 := { stood := { row := fnIndexedKeysRoundTripThroughIndexedValRow, standIns := [], harness := (true, "8b21772192aea5961fdd87ac1f72fac6ce89d086ef6412abfc70066ab68e27e4"), looks := false }, kinds := [], alts := [], laidByText := true, laidKinds := [.data, .data, .data], laidTests := true, laidLooks := .later }
def FnIndexedKeysRoundTripThroughIndexedValCardSaid : Prop := Claim7.holds Tryd.pinned (.plain (OpenSpec.ofChange fnIndexedKeysRoundTripThroughIndexedValSpec)) fnIndexedKeysRoundTripThroughIndexedValCard

/-- THE SECOND FORM's CARD OF 'n010_40.FnIndexedKeysRoundTripThroughIndexedVal'. -/
def fnIndexedKeysRoundTripThroughIndexedValUptoCard : Claim7 := { stood := { row := fnIndexedKeysRoundTripThroughIndexedValUptoRow, standIns := [], harness := (true, "8b21772192aea5961fdd87ac1f72fac6ce89d086ef6412abfc70066ab68e27e4"), looks := false }, kinds := [], alts := [], laidByText := true, laidKinds := [.data, .data, .data], laidTests := true, laidLooks := .later }
def FnIndexedKeysRoundTripThroughIndexedValUptoCardSaid : Prop := Claim7.holds Tryd.pinned (.plain (OpenSpec.upto fnIndexedKeysRoundTripThroughIndexedValSpec)) fnIndexedKeysRoundTripThroughIndexedValUptoCard
end Rows
end Go.Proofs.YtcemogndiblooaaDoor
