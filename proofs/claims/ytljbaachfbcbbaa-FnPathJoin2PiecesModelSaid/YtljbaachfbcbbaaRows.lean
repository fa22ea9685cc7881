/-
  No cell of these rows narrows 'for every input' (looked for: loops, veiled, ifaces, maps, wideKeys, modest, calm, conditions, laid).
  DERIVED. THE GIVEN ROWS OF THIS SEAT. 4 by the template 'for every input the law returns true; each argument reads behind the call as it read before'; 0 by the template 'total and deterministic' (their statements: YtljbaachfbcbbaaTotals.lean).
  GIVEN WITH THE SEED: the statements are not yours to turn. If you find one false, say at which input.
  Laid BY PROGRAM, IN A SANDBOX (cutbox-rows.mjs): the forced cells as the released guide's own fill.sh prints them over the translation c7344b8806629433… (all of the seat's roots in one cut). By AI agents, Wed Nov 11 2026. No macro, syntax, notation, axiom, sorry.
-/
import Derived.Test.YtljbaachfbcbbaaChecked
import GoSem.Claim
import GoSem.ClaimJoined
import GoSem.ClaimMapViews
import Derived.JoinedTies
import Derived.KernelRfl
namespace Go.Proofs.Ytljbaachfbcbbaa
/- THE CELL 'sum', in the pinned program and in every row, IS THE sha256 OF THE DUMP (.gsa) THAT YtljbaachfbcbbaaProg.lean LOADS. Nothing in Lean hashes anything: it is a label: what it is worth is what the hold of that sum in a sandbox is worth. -/
noncomputable def Try.pinned : Pinned := { name := "ytljbaachfbcbbaa", sum := "c7344b88066294332731d042b3f215334151b1d29f31215441ef169611d8da27", checked := Try.checked }
namespace Rows
def none {H : Type} : Left H := { results := [], args := [] }

/-- 'n010_80.FnIsSetIsSetFieldAndImpliesDeclared': WHATEVER THE INPUT: true; the input reads as it did. -/
def fnIsSetIsSetFieldAndImpliesDeclaredSpec : ChangeSpec := { name := "fnIsSetIsSetFieldAndImpliesDeclared", fn := fun _ => fun
  | [d1, d2, d3, d4, d5, d6, d7, d8] => { results := [.lit (.bool true)], args := [d1, d2, d3, d4, d5, d6, d7, d8] }
  | _ => none }
def fnIsSetIsSetFieldAndImpliesDeclaredRow : OpenClaim := { program := "ytljbaachfbcbbaa", sum := "c7344b88066294332731d042b3f215334151b1d29f31215441ef169611d8da27", func := "mvdan.cc/sh/v3/n010_80.FnIsSetIsSetFieldAndImpliesDeclared", spec := "fnIsSetIsSetFieldAndImpliesDeclared", apart := false }
def FnIsSetIsSetFieldAndImpliesDeclaredSaid : Prop := fnIsSetIsSetFieldAndImpliesDeclaredRow.holds Try.pinned (OpenSpec.ofChange fnIsSetIsSetFieldAndImpliesDeclaredSpec)

/-- ITS FALSE NEIGHBOUR: 'it returns false'. Refute it at one input. -/
def fnIsSetIsSetFieldAndImpliesDeclaredWrong : ChangeSpec := { name := "fnIsSetIsSetFieldAndImpliesDeclared", fn := fun _ => fun
  | [d1, d2, d3, d4, d5, d6, d7, d8] => { results := [.lit (.bool false)], args := [d1, d2, d3, d4, d5, d6, d7, d8] }
  | _ => none }
def FnIsSetIsSetFieldAndImpliesDeclaredWrongFalsely : Prop := fnIsSetIsSetFieldAndImpliesDeclaredRow.holds Try.pinned (OpenSpec.ofChange fnIsSetIsSetFieldAndImpliesDeclaredWrong)

/-- 'n010_37.FnPathJoin2PiecesModel': WHATEVER THE INPUT: true; the input reads as it did. -/
def fnPathJoin2PiecesModelSpec : ChangeSpec := { name := "fnPathJoin2PiecesModel", fn := fun _ => fun
  | [d1, d2] => { results := [.lit (.bool true)], args := [d1, d2] }
  | _ => none }
def fnPathJoin2PiecesModelRow : OpenClaim := { program := "ytljbaachfbcbbaa", sum := "c7344b88066294332731d042b3f215334151b1d29f31215441ef169611d8da27", func := "mvdan.cc/sh/v3/n010_37.FnPathJoin2PiecesModel", spec := "fnPathJoin2PiecesModel", apart := false }
def FnPathJoin2PiecesModelSaid : Prop := fnPathJoin2PiecesModelRow.holds Try.pinned (OpenSpec.ofChange fnPathJoin2PiecesModelSpec)

/-- ITS FALSE NEIGHBOUR: 'it returns false'. Refute it at one input. -/
def fnPathJoin2PiecesModelWrong : ChangeSpec := { name := "fnPathJoin2PiecesModel", fn := fun _ => fun
  | [d1, d2] => { results := [.lit (.bool false)], args := [d1, d2] }
  | _ => none }
def FnPathJoin2PiecesModelWrongFalsely : Prop := fnPathJoin2PiecesModelRow.holds Try.pinned (OpenSpec.ofChange fnPathJoin2PiecesModelWrong)

/-- 'n010_80.FnStringDenseSparseAgree': WHATEVER THE INPUT: true; the input reads as it did. -/
def fnStringDenseSparseAgreeSpec : ChangeSpec := { name := "fnStringDenseSparseAgree", fn := fun _ => fun
  | [d] => { results := [.lit (.bool true)], args := [d] }
  | _ => none }
def fnStringDenseSparseAgreeRow : OpenClaim := { program := "ytljbaachfbcbbaa", sum := "c7344b88066294332731d042b3f215334151b1d29f31215441ef169611d8da27", func := "mvdan.cc/sh/v3/n010_80.FnStringDenseSparseAgree", spec := "fnStringDenseSparseAgree", apart := false }
def FnStringDenseSparseAgreeSaid : Prop := fnStringDenseSparseAgreeRow.holds Try.pinned (OpenSpec.ofChange fnStringDenseSparseAgreeSpec)

/-- ITS FALSE NEIGHBOUR: 'it returns false'. Refute it at one input. -/
def fnStringDenseSparseAgreeWrong : ChangeSpec := { name := "fnStringDenseSparseAgree", fn := fun _ => fun
  | [d] => { results := [.lit (.bool false)], args := [d] }
  | _ => none }
def FnStringDenseSparseAgreeWrongFalsely : Prop := fnStringDenseSparseAgreeRow.holds Try.pinned (OpenSpec.ofChange fnStringDenseSparseAgreeWrong)

/-- 'n010_80.FnDeclaredIgnoresValueAndGrowsWithAttributes': WHATEVER THE INPUT: true; the input reads as it did. -/
def fnDeclaredIgnoresValueAndGrowsWithAttributesSpec : ChangeSpec := { name := "fnDeclaredIgnoresValueAndGrowsWithAttributes", fn := fun _ => fun
  | [d1, d2, d3, d4, d5, d6, d7, d8, d9] => { results := [.lit (.bool true)], args := [d1, d2, d3, d4, d5, d6, d7, d8, d9] }
  | _ => none }
def fnDeclaredIgnoresValueAndGrowsWithAttributesRow : OpenClaim := { program := "ytljbaachfbcbbaa", sum := "c7344b88066294332731d042b3f215334151b1d29f31215441ef169611d8da27", func := "mvdan.cc/sh/v3/n010_80.FnDeclaredIgnoresValueAndGrowsWithAttributes", spec := "fnDeclaredIgnoresValueAndGrowsWithAttributes", apart := false }
def FnDeclaredIgnoresValueAndGrowsWithAttributesSaid : Prop := fnDeclaredIgnoresValueAndGrowsWithAttributesRow.holds Try.pinned (OpenSpec.ofChange fnDeclaredIgnoresValueAndGrowsWithAttributesSpec)

/-- ITS FALSE NEIGHBOUR: 'it returns false'. Refute it at one input. -/
def fnDeclaredIgnoresValueAndGrowsWithAttributesWrong : ChangeSpec := { name := "fnDeclaredIgnoresValueAndGrowsWithAttributes", fn := fun _ => fun
  | [d1, d2, d3, d4, d5, d6, d7, d8, d9] => { results := [.lit (.bool false)], args := [d1, d2, d3, d4, d5, d6, d7, d8, d9] }
  | _ => none }
def FnDeclaredIgnoresValueAndGrowsWithAttributesWrongFalsely : Prop := fnDeclaredIgnoresValueAndGrowsWithAttributesRow.holds Try.pinned (OpenSpec.ofChange fnDeclaredIgnoresValueAndGrowsWithAttributesWrong)

/- THE SECOND FORM. 'bulk': how many values and letters a reading holds, each counted each time it is reached (what is shared counts as often as it is met; a slice's spare places count too). A statement '..UptoSaid' is the law's where the arguments, and the package variables that the reading takes, are together of bulk at most 1048576: NARROWER than '..Said'. Prove '..Said' where nothing that the law and all that it calls make is longer than what came in: it says more and counts as full. Else prove '..UptoSaid'. A law counts once. -/
mutual
def uptoBulk {H : Type} : DataW H → Nat
  | .lit (.string bytes) => bytes.length + 1
  | .lit _ => 1
  | .nil => 1
  | .ptr d => uptoBulk d + 1
  | .slice elems spare => uptoBulkAll elems + uptoBulkAll spare + 1
  | .agg parts => uptoBulkAll parts + 1
  | .iface _ d => uptoBulk d + 1
  | .map entries => uptoBulkEntries entries + 1
  | .held _ => 1
def uptoBulkAll {H : Type} : List (DataW H) → Nat
  | [] => 0
  | d :: r => uptoBulk d + uptoBulkAll r
def uptoBulkEntries {H : Type} : List (Lit × DataW H) → Nat
  | [] => 0
  | x :: r => uptoBulkEntry x + uptoBulkEntries r
def uptoBulkEntry {H : Type} : Lit × DataW H → Nat
  | (.string bytes, d) => bytes.length + uptoBulk d + 1
  | (_, d) => uptoBulk d + 1
 end
def uptoSmall : (H : Type) → List (DataW H) → Bool := fun _ ds => decide (uptoBulkAll ds ≤ 1048576)
def OpenSpec.upto (s : _root_.Go.ChangeSpec) : _root_.Go.OpenSpec := { _root_.Go.OpenSpec.ofChange s with cond := some uptoSmall }

/-- 'n010_80.FnIsSetIsSetFieldAndImpliesDeclared', WHERE WHAT IT READS IS OF BULK AT MOST 1048576: true; the input reads as it did. -/
def fnIsSetIsSetFieldAndImpliesDeclaredUptoRow : OpenClaim := { program := "ytljbaachfbcbbaa", sum := "c7344b88066294332731d042b3f215334151b1d29f31215441ef169611d8da27", func := "mvdan.cc/sh/v3/n010_80.FnIsSetIsSetFieldAndImpliesDeclared", spec := "fnIsSetIsSetFieldAndImpliesDeclared", apart := false, narrowed := true }
def FnIsSetIsSetFieldAndImpliesDeclaredUptoSaid : Prop := fnIsSetIsSetFieldAndImpliesDeclaredUptoRow.holds Try.pinned (OpenSpec.upto fnIsSetIsSetFieldAndImpliesDeclaredSpec)

/-- 'n010_37.FnPathJoin2PiecesModel', WHERE WHAT IT READS IS OF BULK AT MOST 1048576: true; the input reads as it did. -/
def fnPathJoin2PiecesModelUptoRow : OpenClaim := { program := "ytljbaachfbcbbaa", sum := "c7344b88066294332731d042b3f215334151b1d29f31215441ef169611d8da27", func := "mvdan.cc/sh/v3/n010_37.FnPathJoin2PiecesModel", spec := "fnPathJoin2PiecesModel", apart := false, narrowed := true }
def FnPathJoin2PiecesModelUptoSaid : Prop := fnPathJoin2PiecesModelUptoRow.holds Try.pinned (OpenSpec.upto fnPathJoin2PiecesModelSpec)

/-- 'n010_80.FnStringDenseSparseAgree', WHERE WHAT IT READS IS OF BULK AT MOST 1048576: true; the input reads as it did. -/
def fnStringDenseSparseAgreeUptoRow : OpenClaim := { program := "ytljbaachfbcbbaa", sum := "c7344b88066294332731d042b3f215334151b1d29f31215441ef169611d8da27", func := "mvdan.cc/sh/v3/n010_80.FnStringDenseSparseAgree", spec := "fnStringDenseSparseAgree", apart := false, narrowed := true }
def FnStringDenseSparseAgreeUptoSaid : Prop := fnStringDenseSparseAgreeUptoRow.holds Try.pinned (OpenSpec.upto fnStringDenseSparseAgreeSpec)

/-- 'n010_80.FnDeclaredIgnoresValueAndGrowsWithAttributes', WHERE WHAT IT READS IS OF BULK AT MOST 1048576: true; the input reads as it did. -/
def fnDeclaredIgnoresValueAndGrowsWithAttributesUptoRow : OpenClaim := { program := "ytljbaachfbcbbaa", sum := "c7344b88066294332731d042b3f215334151b1d29f31215441ef169611d8da27", func := "mvdan.cc/sh/v3/n010_80.FnDeclaredIgnoresValueAndGrowsWithAttributes", spec := "fnDeclaredIgnoresValueAndGrowsWithAttributes", apart := false, narrowed := true }
def FnDeclaredIgnoresValueAndGrowsWithAttributesUptoSaid : Prop := fnDeclaredIgnoresValueAndGrowsWithAttributesUptoRow.holds Try.pinned (OpenSpec.upto fnDeclaredIgnoresValueAndGrowsWithAttributesSpec)

end Rows
end Go.Proofs.Ytljbaachfbcbbaa
