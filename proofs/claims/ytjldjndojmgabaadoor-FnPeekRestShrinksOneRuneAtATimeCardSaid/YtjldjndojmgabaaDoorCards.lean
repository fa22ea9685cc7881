/-
  DERIVED. GIVEN WITH THE SEED: THE CARDS: each row of YtjldjndojmgabaaDoorRows.lean that lists a variable, with what it lists TIED to the program's text (the seventh form; the later family's looks); each row that meets fmt, with fmt's text TOLD by the authors' own Lean function (tested against real Go, not proved from fmt's source: count such statements apart). THE CARD IS WHAT COUNTS. Prove the row's statement (the work); the ties are given (YtjldjndojmgabaaDoorTie.lean); close each card by the builder's one call (the guide's Derived/Test/ToyasCard.lean, 'card_holds'). Laid BY PROGRAM, IN A SANDBOX (cutbox-door.mjs). By AI agents, Wed Nov 11 2026. No macro, syntax, notation, axiom, sorry.
-/
import Derived.Test.YtjldjndojmgabaaDoorRows
import GoSem.ClaimSeven
namespace Go.Proofs.YtjldjndojmgabaaDoor
namespace Rows

/-- THE TIED CARD OF 'n010_127.FnPeekRestShrinksOneRuneAtATime'. -/
def fnPeekRestShrinksOneRuneAtATimeCard : Claim7 := { stood := { row := fnPeekRestShrinksOneRuneAtATimeRow, standIns := [], harness := (true, "395fb215a7a6c2d4a95f92a687f5037fa37cc4efea80669db035a080f3d17550"), looks := false }, kinds := [], alts := [], laidByText := true, laidKinds := [.data, .pinned], laidTests := true, laidLooks := .later }
def FnPeekRestShrinksOneRuneAtATimeCardSaid : Prop := Claim7.holds Tryd.pinned (.plain (OpenSpec.ofChange fnPeekRestShrinksOneRuneAtATimeSpec)) fnPeekRestShrinksOneRuneAtATimeCard

/-- THE SECOND FORM's CARD OF 'n010_127.FnPeekRestShrinksOneRuneAtATime'. -/
def fnPeekRestShrinksOneRuneAtATimeUptoCard : Claim7 := { stood := { row := fnPeekRestShrinksOneRuneAtATimeUptoRow, standIns := [], harness := (true, "395fb215a7a6c2d4a95f92a687f5037fa37cc4efea80669db035a080f3d17550"), looks := false }, kinds := [], alts := [], laidByText := true, laidKinds := [.data, .pinned], laidTests := true, laidLooks := .later }
def FnPeekRestShrinksOneRuneAtATimeUptoCardSaid : Prop := Claim7.holds Tryd.pinned (.plain (OpenSpec.upto fnPeekRestShrinksOneRuneAtATimeSpec)) fnPeekRestShrinksOneRuneAtATimeUptoCard
end Rows
end Go.Proofs.YtjldjndojmgabaaDoor
