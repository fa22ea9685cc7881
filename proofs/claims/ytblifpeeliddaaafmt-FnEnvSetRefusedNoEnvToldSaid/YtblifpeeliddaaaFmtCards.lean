/-
  DERIVED. GIVEN WITH THE SEED: THE CARDS: each row of YtblifpeeliddaaaFmtRows.lean that lists a variable, with what it lists TIED to the program's text (the seventh form; the later family's looks); each row that meets fmt, with fmt's text TOLD by the authors' own Lean function (tested against real Go, not proved from fmt's source: count such statements apart). THE CARD IS WHAT COUNTS. Prove the row's statement (the work); the ties are given (YtblifpeeliddaaaFmtTie.lean); close each card by the builder's one call (the guide's Derived/Test/ToyasCard.lean, 'card_holds'). Laid BY PROGRAM, IN A SANDBOX (cutbox-door.mjs). By AI agents, Wed Nov 11 2026. No macro, syntax, notation, axiom, sorry.
-/
import Derived.Test.YtblifpeeliddaaaFmtRows
import GoSem.ClaimSeven
namespace Go.Proofs.YtblifpeeliddaaaFmt
namespace Rows

/-- THE TOLD CARD OF 'n010_90.FnEnvSetRefusedNoEnv'. -/
def fnEnvSetRefusedNoEnvCard : Claim7 := { stood := { row := fnEnvSetRefusedNoEnvRow, standIns := [], harness := (true, "4b610ac04af9315df0be9e21c3b0b1a14c6ed597c13c5040699b82a6d10c5d47"), looks := true }, told := true, goes := false }
def FnEnvSetRefusedNoEnvToldSaid : Prop := Claim7.holds Tryf.pinned (.plain (OpenSpec.ofChange fnEnvSetRefusedNoEnvSpec)) fnEnvSetRefusedNoEnvCard
/-- ITS FALSE NEIGHBOUR. Refute it at one input. -/
def FnEnvSetRefusedNoEnvToldWrongFalsely : Prop := Claim7.holds Tryf.pinned (.plain (OpenSpec.ofChange fnEnvSetRefusedNoEnvWrong)) fnEnvSetRefusedNoEnvCard
end Rows
end Go.Proofs.YtblifpeeliddaaaFmt
