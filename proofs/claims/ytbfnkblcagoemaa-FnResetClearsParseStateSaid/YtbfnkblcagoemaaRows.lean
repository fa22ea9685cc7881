/-
  No cell of these rows narrows 'for every input' (looked for: loops, veiled, ifaces, maps, wideKeys, modest, calm, conditions, laid).
  DERIVED. THE GIVEN ROWS OF THIS SEAT. 6 by the template 'for every input the law returns true; each argument reads behind the call as it read before'; 0 by the template 'total and deterministic' (their statements: YtbfnkblcagoemaaTotals.lean).
  GIVEN WITH THE SEED: the statements are not yours to turn. If you find one false, say at which input.
  Laid BY PROGRAM, IN A SANDBOX (cutbox-rows.mjs): the forced cells as the released guide's own fill.sh prints them over the translation e07cbca44f5f6d0e… (all of the seat's roots in one cut). By AI agents, Wed Nov 11 2026. No macro, syntax, notation, axiom, sorry.
-/
import Derived.Test.YtbfnkblcagoemaaChecked
import GoSem.Claim
import GoSem.ClaimJoined
import GoSem.ClaimMapViews
import Derived.JoinedTies
import Derived.KernelRfl
namespace Go.Proofs.Ytbfnkblcagoemaa
/- THE CELL 'sum', in the pinned program and in every row, IS THE sha256 OF THE DUMP (.gsa) THAT YtbfnkblcagoemaaProg.lean LOADS. Nothing in Lean hashes anything: it is a label: what it is worth is what the hold of that sum in a sandbox is worth. -/
noncomputable def Try.pinned : Pinned := { name := "ytbfnkblcagoemaa", sum := "e07cbca44f5f6d0e0c60e6c47d904d21eaaa572c2f6e5b0bdb1a8eefdeeacb5a", checked := Try.checked }
namespace Rows
def none {H : Type} : Left H := { results := [], args := [] }

/-- 'n010_75.FnResetClearsParseState': WHATEVER THE INPUT: true; the input reads as it did. -/
def fnResetClearsParseStateSpec : ChangeSpec := { name := "fnResetClearsParseState", fn := fun _ => fun
  | [d1, d2, d3, d4, d5] => { results := [.lit (.bool true)], args := [d1, d2, d3, d4, d5] }
  | _ => none }
def fnResetClearsParseStateRow : OpenClaim := { program := "ytbfnkblcagoemaa", sum := "e07cbca44f5f6d0e0c60e6c47d904d21eaaa572c2f6e5b0bdb1a8eefdeeacb5a", func := "mvdan.cc/sh/v3/n010_75.FnResetClearsParseState", spec := "fnResetClearsParseState", apart := false }
def FnResetClearsParseStateSaid : Prop := fnResetClearsParseStateRow.holds Try.pinned (OpenSpec.ofChange fnResetClearsParseStateSpec)

/-- ITS FALSE NEIGHBOUR: 'it returns false'. Refute it at one input. -/
def fnResetClearsParseStateWrong : ChangeSpec := { name := "fnResetClearsParseState", fn := fun _ => fun
  | [d1, d2, d3, d4, d5] => { results := [.lit (.bool false)], args := [d1, d2, d3, d4, d5] }
  | _ => none }
def FnResetClearsParseStateWrongFalsely : Prop := fnResetClearsParseStateRow.holds Try.pinned (OpenSpec.ofChange fnResetClearsParseStateWrong)

/-- 'n010_75.FnNextPosMonotoneInBsp': WHATEVER THE INPUT: true; the input reads as it did. -/
def fnNextPosMonotoneInBspSpec : ChangeSpec := { name := "fnNextPosMonotoneInBsp", fn := fun _ => fun
  | [d1, d2, d3, d4, d5, d6] => { results := [.lit (.bool true)], args := [d1, d2, d3, d4, d5, d6] }
  | _ => none }
def fnNextPosMonotoneInBspRow : OpenClaim := { program := "ytbfnkblcagoemaa", sum := "e07cbca44f5f6d0e0c60e6c47d904d21eaaa572c2f6e5b0bdb1a8eefdeeacb5a", func := "mvdan.cc/sh/v3/n010_75.FnNextPosMonotoneInBsp", spec := "fnNextPosMonotoneInBsp", apart := false }
def FnNextPosMonotoneInBspSaid : Prop := fnNextPosMonotoneInBspRow.holds Try.pinned (OpenSpec.ofChange fnNextPosMonotoneInBspSpec)

/-- ITS FALSE NEIGHBOUR: 'it returns false'. Refute it at one input. -/
def fnNextPosMonotoneInBspWrong : ChangeSpec := { name := "fnNextPosMonotoneInBsp", fn := fun _ => fun
  | [d1, d2, d3, d4, d5, d6] => { results := [.lit (.bool false)], args := [d1, d2, d3, d4, d5, d6] }
  | _ => none }
def FnNextPosMonotoneInBspWrongFalsely : Prop := fnNextPosMonotoneInBspRow.holds Try.pinned (OpenSpec.ofChange fnNextPosMonotoneInBspWrong)

/-- 'n010_78.FnHasValidIdentLangOnlyForPlusEq': WHATEVER THE INPUT: true; the input reads as it did. -/
def fnHasValidIdentLangOnlyForPlusEqSpec : ChangeSpec := { name := "fnHasValidIdentLangOnlyForPlusEq", fn := fun _ => fun
  | [d1, d2, d3, d4] => { results := [.lit (.bool true)], args := [d1, d2, d3, d4] }
  | _ => none }
def fnHasValidIdentLangOnlyForPlusEqRow : OpenClaim := { program := "ytbfnkblcagoemaa", sum := "e07cbca44f5f6d0e0c60e6c47d904d21eaaa572c2f6e5b0bdb1a8eefdeeacb5a", func := "mvdan.cc/sh/v3/n010_78.FnHasValidIdentLangOnlyForPlusEq", spec := "fnHasValidIdentLangOnlyForPlusEq", apart := false }
def FnHasValidIdentLangOnlyForPlusEqSaid : Prop := fnHasValidIdentLangOnlyForPlusEqRow.holds Try.pinned (OpenSpec.ofChange fnHasValidIdentLangOnlyForPlusEqSpec)

/-- ITS FALSE NEIGHBOUR: 'it returns false'. Refute it at one input. -/
def fnHasValidIdentLangOnlyForPlusEqWrong : ChangeSpec := { name := "fnHasValidIdentLangOnlyForPlusEq", fn := fun _ => fun
  | [d1, d2, d3, d4] => { results := [.lit (.bool false)], args := [d1, d2, d3, d4] }
  | _ => none }
def FnHasValidIdentLangOnlyForPlusEqWrongFalsely : Prop := fnHasValidIdentLangOnlyForPlusEqRow.holds Try.pinned (OpenSpec.ofChange fnHasValidIdentLangOnlyForPlusEqWrong)

/-- 'n010_75.FnLitRecordsPosValueAndEnd': WHATEVER THE INPUT: true; the input reads as it did. -/
def fnLitRecordsPosValueAndEndSpec : ChangeSpec := { name := "fnLitRecordsPosValueAndEnd", fn := fun _ => fun
  | [d1, d2, d3, d4, d5, d6, d7, d8, d9] => { results := [.lit (.bool true)], args := [d1, d2, d3, d4, d5, d6, d7, d8, d9] }
  | _ => none }
def fnLitRecordsPosValueAndEndRow : OpenClaim := { program := "ytbfnkblcagoemaa", sum := "e07cbca44f5f6d0e0c60e6c47d904d21eaaa572c2f6e5b0bdb1a8eefdeeacb5a", func := "mvdan.cc/sh/v3/n010_75.FnLitRecordsPosValueAndEnd", spec := "fnLitRecordsPosValueAndEnd", apart := false }
def FnLitRecordsPosValueAndEndSaid : Prop := fnLitRecordsPosValueAndEndRow.holds Try.pinned (OpenSpec.ofChange fnLitRecordsPosValueAndEndSpec)

/-- ITS FALSE NEIGHBOUR: 'it returns false'. Refute it at one input. -/
def fnLitRecordsPosValueAndEndWrong : ChangeSpec := { name := "fnLitRecordsPosValueAndEnd", fn := fun _ => fun
  | [d1, d2, d3, d4, d5, d6, d7, d8, d9] => { results := [.lit (.bool false)], args := [d1, d2, d3, d4, d5, d6, d7, d8, d9] }
  | _ => none }
def FnLitRecordsPosValueAndEndWrongFalsely : Prop := fnLitRecordsPosValueAndEndRow.holds Try.pinned (OpenSpec.ofChange fnLitRecordsPosValueAndEndWrong)

/-- 'n010_78.FnValidNameJoinPrefixRefuse': WHATEVER THE INPUT: true; the input reads as it did. -/
def fnValidNameJoinPrefixRefuseSpec : ChangeSpec := { name := "fnValidNameJoinPrefixRefuse", fn := fun _ => fun
  | [d1, d2, d3] => { results := [.lit (.bool true)], args := [d1, d2, d3] }
  | _ => none }
def fnValidNameJoinPrefixRefuseRow : OpenClaim := { program := "ytbfnkblcagoemaa", sum := "e07cbca44f5f6d0e0c60e6c47d904d21eaaa572c2f6e5b0bdb1a8eefdeeacb5a", func := "mvdan.cc/sh/v3/n010_78.FnValidNameJoinPrefixRefuse", spec := "fnValidNameJoinPrefixRefuse", apart := false }
def FnValidNameJoinPrefixRefuseSaid : Prop := fnValidNameJoinPrefixRefuseRow.holds Try.pinned (OpenSpec.ofChange fnValidNameJoinPrefixRefuseSpec)

/-- ITS FALSE NEIGHBOUR: 'it returns false'. Refute it at one input. -/
def fnValidNameJoinPrefixRefuseWrong : ChangeSpec := { name := "fnValidNameJoinPrefixRefuse", fn := fun _ => fun
  | [d1, d2, d3] => { results := [.lit (.bool false)], args := [d1, d2, d3] }
  | _ => none }
def FnValidNameJoinPrefixRefuseWrongFalsely : Prop := fnValidNameJoinPrefixRefuseRow.holds Try.pinned (OpenSpec.ofChange fnValidNameJoinPrefixRefuseWrong)

/-- 'n010_70.FnRecoverErrorSplitRunsAgree': WHATEVER THE INPUT: true; the input reads as it did. -/
def fnRecoverErrorSplitRunsAgreeSpec : ChangeSpec := { name := "fnRecoverErrorSplitRunsAgree", fn := fun _ => fun
  | [d1, d2, d3, d4] => { results := [.lit (.bool true)], args := [d1, d2, d3, d4] }
  | _ => none }
def fnRecoverErrorSplitRunsAgreeRow : OpenClaim := { program := "ytbfnkblcagoemaa", sum := "e07cbca44f5f6d0e0c60e6c47d904d21eaaa572c2f6e5b0bdb1a8eefdeeacb5a", func := "mvdan.cc/sh/v3/n010_70.FnRecoverErrorSplitRunsAgree", spec := "fnRecoverErrorSplitRunsAgree", apart := false }
def FnRecoverErrorSplitRunsAgreeSaid : Prop := fnRecoverErrorSplitRunsAgreeRow.holds Try.pinned (OpenSpec.ofChange fnRecoverErrorSplitRunsAgreeSpec)

/-- ITS FALSE NEIGHBOUR: 'it returns false'. Refute it at one input. -/
def fnRecoverErrorSplitRunsAgreeWrong : ChangeSpec := { name := "fnRecoverErrorSplitRunsAgree", fn := fun _ => fun
  | [d1, d2, d3, d4] => { results := [.lit (.bool false)], args := [d1, d2, d3, d4] }
  | _ => none }
def FnRecoverErrorSplitRunsAgreeWrongFalsely : Prop := fnRecoverErrorSplitRunsAgreeRow.holds Try.pinned (OpenSpec.ofChange fnRecoverErrorSplitRunsAgreeWrong)

/- THE SECOND FORM. 'bulk': how many values and letters a reading holds, each counted each time it is reached (what is shared counts as often as it is met; a slice's spare places count too). A statement '..UptoSaid' is the law's where the arguments, and the package variables that the reading takes, are together of bulk at most 1048576: NARROWER than '..Said'. Prove '..Said' where nothing that the law and all that it calls make is longer than what came in: it says more and counts as full. Else prove '..UptoSaid'. A law counts once. -/
mutual
def uptoBulk {H : Type} : DataW H → Nat
  | .lit (.string bytes) => bytes.length + 1
  | .lit _ => 1
  | .nil => 1
  | .ptr d => uptoBulk d + 1
  | .slice elems spare => uptoBulkAll elems + uptoBulkAll spare + 1
  | .agg parts => uptoBulkAll parts + 1
  | .iface _ d => uptoBulk d + 1
  | .map entries => uptoBulkEntries entries + 1
  | .held _ => 1
def uptoBulkAll {H : Type} : List (DataW H) → Nat
  | [] => 0
  | d :: r => uptoBulk d + uptoBulkAll r
def uptoBulkEntries {H : Type} : List (Lit × DataW H) → Nat
  | [] => 0
  | x :: r => uptoBulkEntry x + uptoBulkEntries r
def uptoBulkEntry {H : Type} : Lit × DataW H → Nat
  | (.string bytes, d) => bytes.length + uptoBulk d + 1
  | (_, d) => uptoBulk d + 1
 end
def uptoSmall : (H : Type) → List (DataW H) → Bool := fun _ ds => decide (uptoBulkAll ds ≤ 1048576)
def OpenSpec.upto (s : _root_.Go.ChangeSpec) : _root_.Go.OpenSpec := { _root_.Go.OpenSpec.ofChange s with cond := some uptoSmall }

/-- 'n010_75.FnResetClearsParseState', WHERE WHAT IT READS IS OF BULK AT MOST 1048576: true; the input reads as it did. -/
def fnResetClearsParseStateUptoRow : OpenClaim := { program := "ytbfnkblcagoemaa", sum := "e07cbca44f5f6d0e0c60e6c47d904d21eaaa572c2f6e5b0bdb1a8eefdeeacb5a", func := "mvdan.cc/sh/v3/n010_75.FnResetClearsParseState", spec := "fnResetClearsParseState", apart := false, narrowed := true }
def FnResetClearsParseStateUptoSaid : Prop := fnResetClearsParseStateUptoRow.holds Try.pinned (OpenSpec.upto fnResetClearsParseStateSpec)

/-- 'n010_75.FnNextPosMonotoneInBsp', WHERE WHAT IT READS IS OF BULK AT MOST 1048576: true; the input reads as it did. -/
def fnNextPosMonotoneInBspUptoRow : OpenClaim := { program := "ytbfnkblcagoemaa", sum := "e07cbca44f5f6d0e0c60e6c47d904d21eaaa572c2f6e5b0bdb1a8eefdeeacb5a", func := "mvdan.cc/sh/v3/n010_75.FnNextPosMonotoneInBsp", spec := "fnNextPosMonotoneInBsp", apart := false, narrowed := true }
def FnNextPosMonotoneInBspUptoSaid : Prop := fnNextPosMonotoneInBspUptoRow.holds Try.pinned (OpenSpec.upto fnNextPosMonotoneInBspSpec)

/-- 'n010_78.FnHasValidIdentLangOnlyForPlusEq', WHERE WHAT IT READS IS OF BULK AT MOST 1048576: true; the input reads as it did. -/
def fnHasValidIdentLangOnlyForPlusEqUptoRow : OpenClaim := { program := "ytbfnkblcagoemaa", sum := "e07cbca44f5f6d0e0c60e6c47d904d21eaaa572c2f6e5b0bdb1a8eefdeeacb5a", func := "mvdan.cc/sh/v3/n010_78.FnHasValidIdentLangOnlyForPlusEq", spec := "fnHasValidIdentLangOnlyForPlusEq", apart := false, narrowed := true }
def FnHasValidIdentLangOnlyForPlusEqUptoSaid : Prop := fnHasValidIdentLangOnlyForPlusEqUptoRow.holds Try.pinned (OpenSpec.upto fnHasValidIdentLangOnlyForPlusEqSpec)

/-- 'n010_75.FnLitRecordsPosValueAndEnd', WHERE WHAT IT READS IS OF BULK AT MOST 1048576: true; the input reads as it did. -/
def fnLitRecordsPosValueAndEndUptoRow : OpenClaim := { program := "ytbfnkblcagoemaa", sum := "e07cbca44f5f6d0e0c60e6c47d904d21eaaa572c2f6e5b0bdb1a8eefdeeacb5a", func := "mvdan.cc/sh/v3/n010_75.FnLitRecordsPosValueAndEnd", spec := "fnLitRecordsPosValueAndEnd", apart := false, narrowed := true }
def FnLitRecordsPosValueAndEndUptoSaid : Prop := fnLitRecordsPosValueAndEndUptoRow.holds Try.pinned (OpenSpec.upto fnLitRecordsPosValueAndEndSpec)

/-- 'n010_78.FnValidNameJoinPrefixRefuse', WHERE WHAT IT READS IS OF BULK AT MOST 1048576: true; the input reads as it did. -/
def fnValidNameJoinPrefixRefuseUptoRow : OpenClaim := { program := "ytbfnkblcagoemaa", sum := "e07cbca44f5f6d0e0c60e6c47d904d21eaaa572c2f6e5b0bdb1a8eefdeeacb5a", func := "mvdan.cc/sh/v3/n010_78.FnValidNameJoinPrefixRefuse", spec := "fnValidNameJoinPrefixRefuse", apart := false, narrowed := true }
def FnValidNameJoinPrefixRefuseUptoSaid : Prop := fnValidNameJoinPrefixRefuseUptoRow.holds Try.pinned (OpenSpec.upto fnValidNameJoinPrefixRefuseSpec)

/-- 'n010_70.FnRecoverErrorSplitRunsAgree', WHERE WHAT IT READS IS OF BULK AT MOST 1048576: true; the input reads as it did. -/
def fnRecoverErrorSplitRunsAgreeUptoRow : OpenClaim := { program := "ytbfnkblcagoemaa", sum := "e07cbca44f5f6d0e0c60e6c47d904d21eaaa572c2f6e5b0bdb1a8eefdeeacb5a", func := "mvdan.cc/sh/v3/n010_70.FnRecoverErrorSplitRunsAgree", spec := "fnRecoverErrorSplitRunsAgree", apart := false, narrowed := true }
def FnRecoverErrorSplitRunsAgreeUptoSaid : Prop := fnRecoverErrorSplitRunsAgreeUptoRow.holds Try.pinned (OpenSpec.upto fnRecoverErrorSplitRunsAgreeSpec)

end Rows
end Go.Proofs.Ytbfnkblcagoemaa
