/-
  No cell of these rows narrows 'for every input' (looked for: loops, veiled, ifaces, maps, wideKeys, modest, calm, conditions, laid).
  DERIVED. THE GIVEN ROWS OF THIS SEAT. 9 by the template 'for every input the law returns true; each argument reads behind the call as it read before'; 0 by the template 'total and deterministic' (their statements: YtoehdhoabcpjcaaTotals.lean).
  GIVEN WITH THE SEED: the statements are not yours to turn. If you find one false, say at which input.
  Laid BY PROGRAM, IN A SANDBOX (cutbox-rows.mjs): the forced cells as the released guide's own fill.sh prints them over the translation bcf833f288598596… (all of the seat's roots in one cut). By AI agents, Wed Nov 11 2026. No macro, syntax, notation, axiom, sorry.
-/
import Derived.Test.YtoehdhoabcpjcaaChecked
import GoSem.Claim
import GoSem.ClaimJoined
import GoSem.ClaimMapViews
import Derived.JoinedTies
import Derived.KernelRfl
namespace Go.Proofs.Ytoehdhoabcpjcaa
/- THE CELL 'sum', in the pinned program and in every row, IS THE sha256 OF THE DUMP (.gsa) THAT YtoehdhoabcpjcaaProg.lean LOADS. Nothing in Lean hashes anything: it is a label: what it is worth is what the hold of that sum in a sandbox is worth. -/
noncomputable def Try.pinned : Pinned := { name := "ytoehdhoabcpjcaa", sum := "bcf833f2885985968da17ea8265efc9aea0f6e6c686c4d816ac59ecf6ac5f3a2", checked := Try.checked }
namespace Rows
def none {H : Type} : Left H := { results := [], args := [] }

/-- 'n010_9.FnAsciiLetterCaseFlipInvariant': WHATEVER THE INPUT: true; the input reads as it did. -/
def fnAsciiLetterCaseFlipInvariantSpec : ChangeSpec := { name := "fnAsciiLetterCaseFlipInvariant", fn := fun _ => fun
  | [d] => { results := [.lit (.bool true)], args := [d] }
  | _ => none }
def fnAsciiLetterCaseFlipInvariantRow : OpenClaim := { program := "ytoehdhoabcpjcaa", sum := "bcf833f2885985968da17ea8265efc9aea0f6e6c686c4d816ac59ecf6ac5f3a2", func := "mvdan.cc/sh/v3/n010_9.FnAsciiLetterCaseFlipInvariant", spec := "fnAsciiLetterCaseFlipInvariant", apart := false }
def FnAsciiLetterCaseFlipInvariantSaid : Prop := fnAsciiLetterCaseFlipInvariantRow.holds Try.pinned (OpenSpec.ofChange fnAsciiLetterCaseFlipInvariantSpec)

/-- ITS FALSE NEIGHBOUR: 'it returns false'. Refute it at one input. -/
def fnAsciiLetterCaseFlipInvariantWrong : ChangeSpec := { name := "fnAsciiLetterCaseFlipInvariant", fn := fun _ => fun
  | [d] => { results := [.lit (.bool false)], args := [d] }
  | _ => none }
def FnAsciiLetterCaseFlipInvariantWrongFalsely : Prop := fnAsciiLetterCaseFlipInvariantRow.holds Try.pinned (OpenSpec.ofChange fnAsciiLetterCaseFlipInvariantWrong)

/-- 'n010_85.FnBinaryNextLineReversible': WHATEVER THE INPUT: true; the input reads as it did. -/
def fnBinaryNextLineReversibleSpec : ChangeSpec := { name := "fnBinaryNextLineReversible", fn := fun _ => fun
  | [d1, d2] => { results := [.lit (.bool true)], args := [d1, d2] }
  | _ => none }
def fnBinaryNextLineReversibleRow : OpenClaim := { program := "ytoehdhoabcpjcaa", sum := "bcf833f2885985968da17ea8265efc9aea0f6e6c686c4d816ac59ecf6ac5f3a2", func := "mvdan.cc/sh/v3/n010_85.FnBinaryNextLineReversible", spec := "fnBinaryNextLineReversible", unfollowed := true, recurses := true, apart := false }
def FnBinaryNextLineReversibleSaid : Prop := fnBinaryNextLineReversibleRow.holds Try.pinned (OpenSpec.ofChange fnBinaryNextLineReversibleSpec)

/-- ITS FALSE NEIGHBOUR: 'it returns false'. Refute it at one input. -/
def fnBinaryNextLineReversibleWrong : ChangeSpec := { name := "fnBinaryNextLineReversible", fn := fun _ => fun
  | [d1, d2] => { results := [.lit (.bool false)], args := [d1, d2] }
  | _ => none }
def FnBinaryNextLineReversibleWrongFalsely : Prop := fnBinaryNextLineReversibleRow.holds Try.pinned (OpenSpec.ofChange fnBinaryNextLineReversibleWrong)

/-- 'n010_85.FnSpaceRedirectsLastWins': WHATEVER THE INPUT: true; the input reads as it did. -/
def fnSpaceRedirectsLastWinsSpec : ChangeSpec := { name := "fnSpaceRedirectsLastWins", fn := fun _ => fun
  | [d1, d2, d3] => { results := [.lit (.bool true)], args := [d1, d2, d3] }
  | _ => none }
def fnSpaceRedirectsLastWinsRow : OpenClaim := { program := "ytoehdhoabcpjcaa", sum := "bcf833f2885985968da17ea8265efc9aea0f6e6c686c4d816ac59ecf6ac5f3a2", func := "mvdan.cc/sh/v3/n010_85.FnSpaceRedirectsLastWins", spec := "fnSpaceRedirectsLastWins", unfollowed := true, recurses := true, apart := false }
def FnSpaceRedirectsLastWinsSaid : Prop := fnSpaceRedirectsLastWinsRow.holds Try.pinned (OpenSpec.ofChange fnSpaceRedirectsLastWinsSpec)

/-- ITS FALSE NEIGHBOUR: 'it returns false'. Refute it at one input. -/
def fnSpaceRedirectsLastWinsWrong : ChangeSpec := { name := "fnSpaceRedirectsLastWins", fn := fun _ => fun
  | [d1, d2, d3] => { results := [.lit (.bool false)], args := [d1, d2, d3] }
  | _ => none }
def FnSpaceRedirectsLastWinsWrongFalsely : Prop := fnSpaceRedirectsLastWinsRow.holds Try.pinned (OpenSpec.ofChange fnSpaceRedirectsLastWinsWrong)

/-- 'n010_68.FnLineColIndependent': WHATEVER THE INPUT: true; the input reads as it did. -/
def fnLineColIndependentSpec : ChangeSpec := { name := "fnLineColIndependent", fn := fun _ => fun
  | [d1, d2, d3, d4, d5, d6, d7, d8] => { results := [.lit (.bool true)], args := [d1, d2, d3, d4, d5, d6, d7, d8] }
  | _ => none }
def fnLineColIndependentRow : OpenClaim := { program := "ytoehdhoabcpjcaa", sum := "bcf833f2885985968da17ea8265efc9aea0f6e6c686c4d816ac59ecf6ac5f3a2", func := "mvdan.cc/sh/v3/n010_68.FnLineColIndependent", spec := "fnLineColIndependent", apart := false }
def FnLineColIndependentSaid : Prop := fnLineColIndependentRow.holds Try.pinned (OpenSpec.ofChange fnLineColIndependentSpec)

/-- ITS FALSE NEIGHBOUR: 'it returns false'. Refute it at one input. -/
def fnLineColIndependentWrong : ChangeSpec := { name := "fnLineColIndependent", fn := fun _ => fun
  | [d1, d2, d3, d4, d5, d6, d7, d8] => { results := [.lit (.bool false)], args := [d1, d2, d3, d4, d5, d6, d7, d8] }
  | _ => none }
def FnLineColIndependentWrongFalsely : Prop := fnLineColIndependentRow.holds Try.pinned (OpenSpec.ofChange fnLineColIndependentWrong)

/-- 'n010_9.FnAsciiDigitDisjointFromLettersAndOps': WHATEVER THE INPUT: true; the input reads as it did. -/
def fnAsciiDigitDisjointFromLettersAndOpsSpec : ChangeSpec := { name := "fnAsciiDigitDisjointFromLettersAndOps", fn := fun _ => fun
  | [d] => { results := [.lit (.bool true)], args := [d] }
  | _ => none }
def fnAsciiDigitDisjointFromLettersAndOpsRow : OpenClaim := { program := "ytoehdhoabcpjcaa", sum := "bcf833f2885985968da17ea8265efc9aea0f6e6c686c4d816ac59ecf6ac5f3a2", func := "mvdan.cc/sh/v3/n010_9.FnAsciiDigitDisjointFromLettersAndOps", spec := "fnAsciiDigitDisjointFromLettersAndOps", apart := false }
def FnAsciiDigitDisjointFromLettersAndOpsSaid : Prop := fnAsciiDigitDisjointFromLettersAndOpsRow.holds Try.pinned (OpenSpec.ofChange fnAsciiDigitDisjointFromLettersAndOpsSpec)

/-- ITS FALSE NEIGHBOUR: 'it returns false'. Refute it at one input. -/
def fnAsciiDigitDisjointFromLettersAndOpsWrong : ChangeSpec := { name := "fnAsciiDigitDisjointFromLettersAndOps", fn := fun _ => fun
  | [d] => { results := [.lit (.bool false)], args := [d] }
  | _ => none }
def FnAsciiDigitDisjointFromLettersAndOpsWrongFalsely : Prop := fnAsciiDigitDisjointFromLettersAndOpsRow.holds Try.pinned (OpenSpec.ofChange fnAsciiDigitDisjointFromLettersAndOpsWrong)

/-- 'n010_9.FnParamOpsDisjointFromRegOps': WHATEVER THE INPUT: true; the input reads as it did. -/
def fnParamOpsDisjointFromRegOpsSpec : ChangeSpec := { name := "fnParamOpsDisjointFromRegOps", fn := fun _ => fun
  | [d] => { results := [.lit (.bool true)], args := [d] }
  | _ => none }
def fnParamOpsDisjointFromRegOpsRow : OpenClaim := { program := "ytoehdhoabcpjcaa", sum := "bcf833f2885985968da17ea8265efc9aea0f6e6c686c4d816ac59ecf6ac5f3a2", func := "mvdan.cc/sh/v3/n010_9.FnParamOpsDisjointFromRegOps", spec := "fnParamOpsDisjointFromRegOps", apart := false }
def FnParamOpsDisjointFromRegOpsSaid : Prop := fnParamOpsDisjointFromRegOpsRow.holds Try.pinned (OpenSpec.ofChange fnParamOpsDisjointFromRegOpsSpec)

/-- ITS FALSE NEIGHBOUR: 'it returns false'. Refute it at one input. -/
def fnParamOpsDisjointFromRegOpsWrong : ChangeSpec := { name := "fnParamOpsDisjointFromRegOps", fn := fun _ => fun
  | [d] => { results := [.lit (.bool false)], args := [d] }
  | _ => none }
def FnParamOpsDisjointFromRegOpsWrongFalsely : Prop := fnParamOpsDisjointFromRegOpsRow.holds Try.pinned (OpenSpec.ofChange fnParamOpsDisjointFromRegOpsWrong)

/-- 'n010_9.FnRegOpsPrintablePunctuation': WHATEVER THE INPUT: true; the input reads as it did. -/
def fnRegOpsPrintablePunctuationSpec : ChangeSpec := { name := "fnRegOpsPrintablePunctuation", fn := fun _ => fun
  | [d] => { results := [.lit (.bool true)], args := [d] }
  | _ => none }
def fnRegOpsPrintablePunctuationRow : OpenClaim := { program := "ytoehdhoabcpjcaa", sum := "bcf833f2885985968da17ea8265efc9aea0f6e6c686c4d816ac59ecf6ac5f3a2", func := "mvdan.cc/sh/v3/n010_9.FnRegOpsPrintablePunctuation", spec := "fnRegOpsPrintablePunctuation", apart := false }
def FnRegOpsPrintablePunctuationSaid : Prop := fnRegOpsPrintablePunctuationRow.holds Try.pinned (OpenSpec.ofChange fnRegOpsPrintablePunctuationSpec)

/-- ITS FALSE NEIGHBOUR: 'it returns false'. Refute it at one input. -/
def fnRegOpsPrintablePunctuationWrong : ChangeSpec := { name := "fnRegOpsPrintablePunctuation", fn := fun _ => fun
  | [d] => { results := [.lit (.bool false)], args := [d] }
  | _ => none }
def FnRegOpsPrintablePunctuationWrongFalsely : Prop := fnRegOpsPrintablePunctuationRow.holds Try.pinned (OpenSpec.ofChange fnRegOpsPrintablePunctuationWrong)

/-- 'n010_68.FnNewPosAccessorsExact': WHATEVER THE INPUT: true; the input reads as it did. -/
def fnNewPosAccessorsExactSpec : ChangeSpec := { name := "fnNewPosAccessorsExact", fn := fun _ => fun
  | [d1, d2, d3] => { results := [.lit (.bool true)], args := [d1, d2, d3] }
  | _ => none }
def fnNewPosAccessorsExactRow : OpenClaim := { program := "ytoehdhoabcpjcaa", sum := "bcf833f2885985968da17ea8265efc9aea0f6e6c686c4d816ac59ecf6ac5f3a2", func := "mvdan.cc/sh/v3/n010_68.FnNewPosAccessorsExact", spec := "fnNewPosAccessorsExact", apart := false }
def FnNewPosAccessorsExactSaid : Prop := fnNewPosAccessorsExactRow.holds Try.pinned (OpenSpec.ofChange fnNewPosAccessorsExactSpec)

/-- ITS FALSE NEIGHBOUR: 'it returns false'. Refute it at one input. -/
def fnNewPosAccessorsExactWrong : ChangeSpec := { name := "fnNewPosAccessorsExact", fn := fun _ => fun
  | [d1, d2, d3] => { results := [.lit (.bool false)], args := [d1, d2, d3] }
  | _ => none }
def FnNewPosAccessorsExactWrongFalsely : Prop := fnNewPosAccessorsExactRow.holds Try.pinned (OpenSpec.ofChange fnNewPosAccessorsExactWrong)

/-- 'n010_68.FnOffsetMonotoneAndBounded': WHATEVER THE INPUT: true; the input reads as it did. -/
def fnOffsetMonotoneAndBoundedSpec : ChangeSpec := { name := "fnOffsetMonotoneAndBounded", fn := fun _ => fun
  | [d1, d2, d3, d4, d5, d6] => { results := [.lit (.bool true)], args := [d1, d2, d3, d4, d5, d6] }
  | _ => none }
def fnOffsetMonotoneAndBoundedRow : OpenClaim := { program := "ytoehdhoabcpjcaa", sum := "bcf833f2885985968da17ea8265efc9aea0f6e6c686c4d816ac59ecf6ac5f3a2", func := "mvdan.cc/sh/v3/n010_68.FnOffsetMonotoneAndBounded", spec := "fnOffsetMonotoneAndBounded", apart := false }
def FnOffsetMonotoneAndBoundedSaid : Prop := fnOffsetMonotoneAndBoundedRow.holds Try.pinned (OpenSpec.ofChange fnOffsetMonotoneAndBoundedSpec)

/-- ITS FALSE NEIGHBOUR: 'it returns false'. Refute it at one input. -/
def fnOffsetMonotoneAndBoundedWrong : ChangeSpec := { name := "fnOffsetMonotoneAndBounded", fn := fun _ => fun
  | [d1, d2, d3, d4, d5, d6] => { results := [.lit (.bool false)], args := [d1, d2, d3, d4, d5, d6] }
  | _ => none }
def FnOffsetMonotoneAndBoundedWrongFalsely : Prop := fnOffsetMonotoneAndBoundedRow.holds Try.pinned (OpenSpec.ofChange fnOffsetMonotoneAndBoundedWrong)

/- THE SECOND FORM. 'bulk': how many values and letters a reading holds, each counted each time it is reached (what is shared counts as often as it is met; a slice's spare places count too). A statement '..UptoSaid' is the law's where the arguments, and the package variables that the reading takes, are together of bulk at most 1048576: NARROWER than '..Said'. Prove '..Said' where nothing that the law and all that it calls make is longer than what came in: it says more and counts as full. Else prove '..UptoSaid'. A law counts once. -/
mutual
def uptoBulk {H : Type} : DataW H → Nat
  | .lit (.string bytes) => bytes.length + 1
  | .lit _ => 1
  | .nil => 1
  | .ptr d => uptoBulk d + 1
  | .slice elems spare => uptoBulkAll elems + uptoBulkAll spare + 1
  | .agg parts => uptoBulkAll parts + 1
  | .iface _ d => uptoBulk d + 1
  | .map entries => uptoBulkEntries entries + 1
  | .held _ => 1
def uptoBulkAll {H : Type} : List (DataW H) → Nat
  | [] => 0
  | d :: r => uptoBulk d + uptoBulkAll r
def uptoBulkEntries {H : Type} : List (Lit × DataW H) → Nat
  | [] => 0
  | x :: r => uptoBulkEntry x + uptoBulkEntries r
def uptoBulkEntry {H : Type} : Lit × DataW H → Nat
  | (.string bytes, d) => bytes.length + uptoBulk d + 1
  | (_, d) => uptoBulk d + 1
 end
def uptoSmall : (H : Type) → List (DataW H) → Bool := fun _ ds => decide (uptoBulkAll ds ≤ 1048576)
def OpenSpec.upto (s : _root_.Go.ChangeSpec) : _root_.Go.OpenSpec := { _root_.Go.OpenSpec.ofChange s with cond := some uptoSmall }

/-- 'n010_9.FnAsciiLetterCaseFlipInvariant', WHERE WHAT IT READS IS OF BULK AT MOST 1048576: true; the input reads as it did. -/
def fnAsciiLetterCaseFlipInvariantUptoRow : OpenClaim := { program := "ytoehdhoabcpjcaa", sum := "bcf833f2885985968da17ea8265efc9aea0f6e6c686c4d816ac59ecf6ac5f3a2", func := "mvdan.cc/sh/v3/n010_9.FnAsciiLetterCaseFlipInvariant", spec := "fnAsciiLetterCaseFlipInvariant", apart := false, narrowed := true }
def FnAsciiLetterCaseFlipInvariantUptoSaid : Prop := fnAsciiLetterCaseFlipInvariantUptoRow.holds Try.pinned (OpenSpec.upto fnAsciiLetterCaseFlipInvariantSpec)

/-- 'n010_85.FnBinaryNextLineReversible', WHERE WHAT IT READS IS OF BULK AT MOST 1048576: true; the input reads as it did. -/
def fnBinaryNextLineReversibleUptoRow : OpenClaim := { program := "ytoehdhoabcpjcaa", sum := "bcf833f2885985968da17ea8265efc9aea0f6e6c686c4d816ac59ecf6ac5f3a2", func := "mvdan.cc/sh/v3/n010_85.FnBinaryNextLineReversible", spec := "fnBinaryNextLineReversible", unfollowed := true, recurses := true, apart := false, narrowed := true }
def FnBinaryNextLineReversibleUptoSaid : Prop := fnBinaryNextLineReversibleUptoRow.holds Try.pinned (OpenSpec.upto fnBinaryNextLineReversibleSpec)

/-- 'n010_85.FnSpaceRedirectsLastWins', WHERE WHAT IT READS IS OF BULK AT MOST 1048576: true; the input reads as it did. -/
def fnSpaceRedirectsLastWinsUptoRow : OpenClaim := { program := "ytoehdhoabcpjcaa", sum := "bcf833f2885985968da17ea8265efc9aea0f6e6c686c4d816ac59ecf6ac5f3a2", func := "mvdan.cc/sh/v3/n010_85.FnSpaceRedirectsLastWins", spec := "fnSpaceRedirectsLastWins", unfollowed := true, recurses := true, apart := false, narrowed := true }
def FnSpaceRedirectsLastWinsUptoSaid : Prop := fnSpaceRedirectsLastWinsUptoRow.holds Try.pinned (OpenSpec.upto fnSpaceRedirectsLastWinsSpec)

/-- 'n010_68.FnLineColIndependent', WHERE WHAT IT READS IS OF BULK AT MOST 1048576: true; the input reads as it did. -/
def fnLineColIndependentUptoRow : OpenClaim := { program := "ytoehdhoabcpjcaa", sum := "bcf833f2885985968da17ea8265efc9aea0f6e6c686c4d816ac59ecf6ac5f3a2", func := "mvdan.cc/sh/v3/n010_68.FnLineColIndependent", spec := "fnLineColIndependent", apart := false, narrowed := true }
def FnLineColIndependentUptoSaid : Prop := fnLineColIndependentUptoRow.holds Try.pinned (OpenSpec.upto fnLineColIndependentSpec)

/-- 'n010_9.FnAsciiDigitDisjointFromLettersAndOps', WHERE WHAT IT READS IS OF BULK AT MOST 1048576: true; the input reads as it did. -/
def fnAsciiDigitDisjointFromLettersAndOpsUptoRow : OpenClaim := { program := "ytoehdhoabcpjcaa", sum := "bcf833f2885985968da17ea8265efc9aea0f6e6c686c4d816ac59ecf6ac5f3a2", func := "mvdan.cc/sh/v3/n010_9.FnAsciiDigitDisjointFromLettersAndOps", spec := "fnAsciiDigitDisjointFromLettersAndOps", apart := false, narrowed := true }
def FnAsciiDigitDisjointFromLettersAndOpsUptoSaid : Prop := fnAsciiDigitDisjointFromLettersAndOpsUptoRow.holds Try.pinned (OpenSpec.upto fnAsciiDigitDisjointFromLettersAndOpsSpec)

/-- 'n010_9.FnParamOpsDisjointFromRegOps', WHERE WHAT IT READS IS OF BULK AT MOST 1048576: true; the input reads as it did. -/
def fnParamOpsDisjointFromRegOpsUptoRow : OpenClaim := { program := "ytoehdhoabcpjcaa", sum := "bcf833f2885985968da17ea8265efc9aea0f6e6c686c4d816ac59ecf6ac5f3a2", func := "mvdan.cc/sh/v3/n010_9.FnParamOpsDisjointFromRegOps", spec := "fnParamOpsDisjointFromRegOps", apart := false, narrowed := true }
def FnParamOpsDisjointFromRegOpsUptoSaid : Prop := fnParamOpsDisjointFromRegOpsUptoRow.holds Try.pinned (OpenSpec.upto fnParamOpsDisjointFromRegOpsSpec)

/-- 'n010_9.FnRegOpsPrintablePunctuation', WHERE WHAT IT READS IS OF BULK AT MOST 1048576: true; the input reads as it did. -/
def fnRegOpsPrintablePunctuationUptoRow : OpenClaim := { program := "ytoehdhoabcpjcaa", sum := "bcf833f2885985968da17ea8265efc9aea0f6e6c686c4d816ac59ecf6ac5f3a2", func := "mvdan.cc/sh/v3/n010_9.FnRegOpsPrintablePunctuation", spec := "fnRegOpsPrintablePunctuation", apart := false, narrowed := true }
def FnRegOpsPrintablePunctuationUptoSaid : Prop := fnRegOpsPrintablePunctuationUptoRow.holds Try.pinned (OpenSpec.upto fnRegOpsPrintablePunctuationSpec)

/-- 'n010_68.FnNewPosAccessorsExact', WHERE WHAT IT READS IS OF BULK AT MOST 1048576: true; the input reads as it did. -/
def fnNewPosAccessorsExactUptoRow : OpenClaim := { program := "ytoehdhoabcpjcaa", sum := "bcf833f2885985968da17ea8265efc9aea0f6e6c686c4d816ac59ecf6ac5f3a2", func := "mvdan.cc/sh/v3/n010_68.FnNewPosAccessorsExact", spec := "fnNewPosAccessorsExact", apart := false, narrowed := true }
def FnNewPosAccessorsExactUptoSaid : Prop := fnNewPosAccessorsExactUptoRow.holds Try.pinned (OpenSpec.upto fnNewPosAccessorsExactSpec)

/-- 'n010_68.FnOffsetMonotoneAndBounded', WHERE WHAT IT READS IS OF BULK AT MOST 1048576: true; the input reads as it did. -/
def fnOffsetMonotoneAndBoundedUptoRow : OpenClaim := { program := "ytoehdhoabcpjcaa", sum := "bcf833f2885985968da17ea8265efc9aea0f6e6c686c4d816ac59ecf6ac5f3a2", func := "mvdan.cc/sh/v3/n010_68.FnOffsetMonotoneAndBounded", spec := "fnOffsetMonotoneAndBounded", apart := false, narrowed := true }
def FnOffsetMonotoneAndBoundedUptoSaid : Prop := fnOffsetMonotoneAndBoundedUptoRow.holds Try.pinned (OpenSpec.upto fnOffsetMonotoneAndBoundedSpec)

end Rows
end Go.Proofs.Ytoehdhoabcpjcaa
