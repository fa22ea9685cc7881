/-
  No cell of these rows narrows 'for every input' (looked for: loops, veiled, ifaces, maps, wideKeys, modest, calm, conditions, laid).
  DERIVED. THE GIVEN ROWS OF THIS SEAT. 1 by the template 'for every input the law returns true; each argument reads behind the call as it read before'; 0 by the template 'total and deterministic' (their statements: YtblifpeeliddaaaFmtTotals.lean).
  GIVEN WITH THE SEED: the statements are not yours to turn. If you find one false, say at which input.
  Laid BY PROGRAM, IN A SANDBOX (cutbox-rows.mjs): the forced cells as the released guide's own fill.sh prints them over the translation 4c5481cbbb9b7fe2… (all of the seat's roots in one cut). By AI agents, Wed Nov 11 2026. No macro, syntax, notation, axiom, sorry.
-/
import Derived.Test.YtblifpeeliddaaaFmtChecked
import GoSem.Claim
import GoSem.ClaimJoined
import GoSem.ClaimMapViews
import Derived.JoinedTies
import Derived.KernelRfl
namespace Go.Proofs.YtblifpeeliddaaaFmt
/- THE CELL 'sum', in the pinned program and in every row, IS THE sha256 OF THE DUMP (.gsa) THAT YtblifpeeliddaaaFmtProg.lean LOADS. Nothing in Lean hashes anything: it is a label: what it is worth is what the hold of that sum in a sandbox is worth. -/
noncomputable def Tryf.pinned : Pinned := { name := "ytblifpeeliddaaafmt", sum := "4c5481cbbb9b7fe23fd98ea41311f2b38540fff4aabfc600b8a1cbdb5699f366", checked := Tryf.checked }
namespace Rows
def none {H : Type} : Left H := { results := [], args := [] }

/-- 'n010_90.FnEnvSetRefusedNoEnv': WHATEVER THE INPUT: true; the input reads as it did. -/
def fnEnvSetRefusedNoEnvSpec : ChangeSpec := { name := "fnEnvSetRefusedNoEnv", fn := fun _ => fun
  | [d1, d2] => { results := [.lit (.bool true)], args := [d1, d2] }
  | _ => none }
def fnEnvSetRefusedNoEnvRow : OpenClaim := { program := "ytblifpeeliddaaafmt", sum := "4c5481cbbb9b7fe23fd98ea41311f2b38540fff4aabfc600b8a1cbdb5699f366", func := "mvdan.cc/sh/v3/n010_90.FnEnvSetRefusedNoEnv", spec := "fnEnvSetRefusedNoEnv", stops := ["fmt.errorf"], inPlace := ["fmt.errorf"], unfollowed := true, recurses := true, apart := false }
/-- NO THEOREM (fmt's text is open here; it may be false): for the released tool's asking of the row's closed facts alone. THE STATEMENT IS 'FnEnvSetRefusedNoEnvToldSaid' (YtblifpeeliddaaaFmtCards.lean). -/
def FnEnvSetRefusedNoEnvFormAsk : Prop := fnEnvSetRefusedNoEnvRow.holds Tryf.pinned (OpenSpec.ofChange fnEnvSetRefusedNoEnvSpec)

/-- ITS FALSE NEIGHBOUR: 'it returns false'. Refute it at one input. -/
def fnEnvSetRefusedNoEnvWrong : ChangeSpec := { name := "fnEnvSetRefusedNoEnv", fn := fun _ => fun
  | [d1, d2] => { results := [.lit (.bool false)], args := [d1, d2] }
  | _ => none }
def FnEnvSetRefusedNoEnvWrongFormAsk : Prop := fnEnvSetRefusedNoEnvRow.holds Tryf.pinned (OpenSpec.ofChange fnEnvSetRefusedNoEnvWrong)

end Rows
end Go.Proofs.YtblifpeeliddaaaFmt
