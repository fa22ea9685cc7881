/-
  No cell of these rows narrows 'for every input' (looked for: loops, veiled, ifaces, maps, wideKeys, modest, calm, conditions, laid).
  DERIVED. THE GIVEN ROWS OF THIS SEAT. 7 by the template 'for every input the law returns true; each argument reads behind the call as it read before'; 0 by the template 'total and deterministic' (their statements: YtngbfadnmeohnaaTotals.lean).
  GIVEN WITH THE SEED: the statements are not yours to turn. If you find one false, say at which input.
  Laid BY PROGRAM, IN A SANDBOX (cutbox-rows.mjs): the forced cells as the released guide's own fill.sh prints them over the translation 07c36f5d1c080857… (all of the seat's roots in one cut). By AI agents, Wed Nov 11 2026. No macro, syntax, notation, axiom, sorry.
-/
import Derived.Test.YtngbfadnmeohnaaChecked
import GoSem.Claim
import GoSem.ClaimJoined
import GoSem.ClaimMapViews
import Derived.JoinedTies
import Derived.KernelRfl
namespace Go.Proofs.Ytngbfadnmeohnaa
/- THE CELL 'sum', in the pinned program and in every row, IS THE sha256 OF THE DUMP (.gsa) THAT YtngbfadnmeohnaaProg.lean LOADS. Nothing in Lean hashes anything: it is a label: what it is worth is what the hold of that sum in a sandbox is worth. -/
noncomputable def Try.pinned : Pinned := { name := "ytngbfadnmeohnaa", sum := "07c36f5d1c080857e045d941bb6088a17c416d878a8ea4abaf299007f37f6380", checked := Try.checked }
namespace Rows
def none {H : Type} : Left H := { results := [], args := [] }

/-- 'n010_66.FnCStyleLoopSpanNonEmpty': WHATEVER THE INPUT: true; the input reads as it did. -/
def fnCStyleLoopSpanNonEmptySpec : ChangeSpec := { name := "fnCStyleLoopSpanNonEmpty", fn := fun _ => fun
  | [d1, d2, d3, d4] => { results := [.lit (.bool true)], args := [d1, d2, d3, d4] }
  | _ => none }
def fnCStyleLoopSpanNonEmptyRow : OpenClaim := { program := "ytngbfadnmeohnaa", sum := "07c36f5d1c080857e045d941bb6088a17c416d878a8ea4abaf299007f37f6380", func := "mvdan.cc/sh/v3/n010_66.FnCStyleLoopSpanNonEmpty", spec := "fnCStyleLoopSpanNonEmpty", apart := false }
def FnCStyleLoopSpanNonEmptySaid : Prop := fnCStyleLoopSpanNonEmptyRow.holds Try.pinned (OpenSpec.ofChange fnCStyleLoopSpanNonEmptySpec)

/-- ITS FALSE NEIGHBOUR: 'it returns false'. Refute it at one input. -/
def fnCStyleLoopSpanNonEmptyWrong : ChangeSpec := { name := "fnCStyleLoopSpanNonEmpty", fn := fun _ => fun
  | [d1, d2, d3, d4] => { results := [.lit (.bool false)], args := [d1, d2, d3, d4] }
  | _ => none }
def FnCStyleLoopSpanNonEmptyWrongFalsely : Prop := fnCStyleLoopSpanNonEmptyRow.holds Try.pinned (OpenSpec.ofChange fnCStyleLoopSpanNonEmptyWrong)

/-- 'n010_98.FnForClauseSpanNonEmpty': WHATEVER THE INPUT: true; the input reads as it did. -/
def fnForClauseSpanNonEmptySpec : ChangeSpec := { name := "fnForClauseSpanNonEmpty", fn := fun _ => fun
  | [d1, d2, d3, d4, d5, d6, d7] => { results := [.lit (.bool true)], args := [d1, d2, d3, d4, d5, d6, d7] }
  | _ => none }
def fnForClauseSpanNonEmptyRow : OpenClaim := { program := "ytngbfadnmeohnaa", sum := "07c36f5d1c080857e045d941bb6088a17c416d878a8ea4abaf299007f37f6380", func := "mvdan.cc/sh/v3/n010_98.FnForClauseSpanNonEmpty", spec := "fnForClauseSpanNonEmpty", apart := false }
def FnForClauseSpanNonEmptySaid : Prop := fnForClauseSpanNonEmptyRow.holds Try.pinned (OpenSpec.ofChange fnForClauseSpanNonEmptySpec)

/-- ITS FALSE NEIGHBOUR: 'it returns false'. Refute it at one input. -/
def fnForClauseSpanNonEmptyWrong : ChangeSpec := { name := "fnForClauseSpanNonEmpty", fn := fun _ => fun
  | [d1, d2, d3, d4, d5, d6, d7] => { results := [.lit (.bool false)], args := [d1, d2, d3, d4, d5, d6, d7] }
  | _ => none }
def FnForClauseSpanNonEmptyWrongFalsely : Prop := fnForClauseSpanNonEmptyRow.holds Try.pinned (OpenSpec.ofChange fnForClauseSpanNonEmptyWrong)

/-- 'n010_74.FnIfClauseEndIsTwoSingleSteps': WHATEVER THE INPUT: true; the input reads as it did. -/
def fnIfClauseEndIsTwoSingleStepsSpec : ChangeSpec := { name := "fnIfClauseEndIsTwoSingleSteps", fn := fun _ => fun
  | [d1, d2] => { results := [.lit (.bool true)], args := [d1, d2] }
  | _ => none }
def fnIfClauseEndIsTwoSingleStepsRow : OpenClaim := { program := "ytngbfadnmeohnaa", sum := "07c36f5d1c080857e045d941bb6088a17c416d878a8ea4abaf299007f37f6380", func := "mvdan.cc/sh/v3/n010_74.FnIfClauseEndIsTwoSingleSteps", spec := "fnIfClauseEndIsTwoSingleSteps", apart := false }
def FnIfClauseEndIsTwoSingleStepsSaid : Prop := fnIfClauseEndIsTwoSingleStepsRow.holds Try.pinned (OpenSpec.ofChange fnIfClauseEndIsTwoSingleStepsSpec)

/-- ITS FALSE NEIGHBOUR: 'it returns false'. Refute it at one input. -/
def fnIfClauseEndIsTwoSingleStepsWrong : ChangeSpec := { name := "fnIfClauseEndIsTwoSingleSteps", fn := fun _ => fun
  | [d1, d2] => { results := [.lit (.bool false)], args := [d1, d2] }
  | _ => none }
def FnIfClauseEndIsTwoSingleStepsWrongFalsely : Prop := fnIfClauseEndIsTwoSingleStepsRow.holds Try.pinned (OpenSpec.ofChange fnIfClauseEndIsTwoSingleStepsWrong)

/-- 'n010_76.FnPosAddColUndo': WHATEVER THE INPUT: true; the input reads as it did. -/
def fnPosAddColUndoSpec : ChangeSpec := { name := "fnPosAddColUndo", fn := fun _ => fun
  | [d1, d2, d3] => { results := [.lit (.bool true)], args := [d1, d2, d3] }
  | _ => none }
def fnPosAddColUndoRow : OpenClaim := { program := "ytngbfadnmeohnaa", sum := "07c36f5d1c080857e045d941bb6088a17c416d878a8ea4abaf299007f37f6380", func := "mvdan.cc/sh/v3/n010_76.FnPosAddColUndo", spec := "fnPosAddColUndo", apart := false }
def FnPosAddColUndoSaid : Prop := fnPosAddColUndoRow.holds Try.pinned (OpenSpec.ofChange fnPosAddColUndoSpec)

/-- ITS FALSE NEIGHBOUR: 'it returns false'. Refute it at one input. -/
def fnPosAddColUndoWrong : ChangeSpec := { name := "fnPosAddColUndo", fn := fun _ => fun
  | [d1, d2, d3] => { results := [.lit (.bool false)], args := [d1, d2, d3] }
  | _ => none }
def FnPosAddColUndoWrongFalsely : Prop := fnPosAddColUndoRow.holds Try.pinned (OpenSpec.ofChange fnPosAddColUndoWrong)

/-- 'n010_66.FnWordIterPosSpan': WHATEVER THE INPUT: true; the input reads as it did. -/
def fnWordIterPosSpanSpec : ChangeSpec := { name := "fnWordIterPosSpan", fn := fun _ => fun
  | [d1, d2, d3, d4, d5, d6, d7, d8] => { results := [.lit (.bool true)], args := [d1, d2, d3, d4, d5, d6, d7, d8] }
  | _ => none }
def fnWordIterPosSpanRow : OpenClaim := { program := "ytngbfadnmeohnaa", sum := "07c36f5d1c080857e045d941bb6088a17c416d878a8ea4abaf299007f37f6380", func := "mvdan.cc/sh/v3/n010_66.FnWordIterPosSpan", spec := "fnWordIterPosSpan", unfollowed := true, recurses := true, apart := false }
def FnWordIterPosSpanSaid : Prop := fnWordIterPosSpanRow.holds Try.pinned (OpenSpec.ofChange fnWordIterPosSpanSpec)

/-- ITS FALSE NEIGHBOUR: 'it returns false'. Refute it at one input. -/
def fnWordIterPosSpanWrong : ChangeSpec := { name := "fnWordIterPosSpan", fn := fun _ => fun
  | [d1, d2, d3, d4, d5, d6, d7, d8] => { results := [.lit (.bool false)], args := [d1, d2, d3, d4, d5, d6, d7, d8] }
  | _ => none }
def FnWordIterPosSpanWrongFalsely : Prop := fnWordIterPosSpanRow.holds Try.pinned (OpenSpec.ofChange fnWordIterPosSpanWrong)

/-- 'n010_74.FnIfClauseSpanOrdered': WHATEVER THE INPUT: true; the input reads as it did. -/
def fnIfClauseSpanOrderedSpec : ChangeSpec := { name := "fnIfClauseSpanOrdered", fn := fun _ => fun
  | [d1, d2, d3, d4] => { results := [.lit (.bool true)], args := [d1, d2, d3, d4] }
  | _ => none }
def fnIfClauseSpanOrderedRow : OpenClaim := { program := "ytngbfadnmeohnaa", sum := "07c36f5d1c080857e045d941bb6088a17c416d878a8ea4abaf299007f37f6380", func := "mvdan.cc/sh/v3/n010_74.FnIfClauseSpanOrdered", spec := "fnIfClauseSpanOrdered", apart := false }
def FnIfClauseSpanOrderedSaid : Prop := fnIfClauseSpanOrderedRow.holds Try.pinned (OpenSpec.ofChange fnIfClauseSpanOrderedSpec)

/-- ITS FALSE NEIGHBOUR: 'it returns false'. Refute it at one input. -/
def fnIfClauseSpanOrderedWrong : ChangeSpec := { name := "fnIfClauseSpanOrdered", fn := fun _ => fun
  | [d1, d2, d3, d4] => { results := [.lit (.bool false)], args := [d1, d2, d3, d4] }
  | _ => none }
def FnIfClauseSpanOrderedWrongFalsely : Prop := fnIfClauseSpanOrderedRow.holds Try.pinned (OpenSpec.ofChange fnIfClauseSpanOrderedWrong)

/-- 'n010_76.FnCommentEndAfterPos': WHATEVER THE INPUT: true; the input reads as it did. -/
def fnCommentEndAfterPosSpec : ChangeSpec := { name := "fnCommentEndAfterPos", fn := fun _ => fun
  | [d1, d2, d3] => { results := [.lit (.bool true)], args := [d1, d2, d3] }
  | _ => none }
def fnCommentEndAfterPosRow : OpenClaim := { program := "ytngbfadnmeohnaa", sum := "07c36f5d1c080857e045d941bb6088a17c416d878a8ea4abaf299007f37f6380", func := "mvdan.cc/sh/v3/n010_76.FnCommentEndAfterPos", spec := "fnCommentEndAfterPos", apart := false }
def FnCommentEndAfterPosSaid : Prop := fnCommentEndAfterPosRow.holds Try.pinned (OpenSpec.ofChange fnCommentEndAfterPosSpec)

/-- ITS FALSE NEIGHBOUR: 'it returns false'. Refute it at one input. -/
def fnCommentEndAfterPosWrong : ChangeSpec := { name := "fnCommentEndAfterPos", fn := fun _ => fun
  | [d1, d2, d3] => { results := [.lit (.bool false)], args := [d1, d2, d3] }
  | _ => none }
def FnCommentEndAfterPosWrongFalsely : Prop := fnCommentEndAfterPosRow.holds Try.pinned (OpenSpec.ofChange fnCommentEndAfterPosWrong)

/- THE SECOND FORM. 'bulk': how many values and letters a reading holds, each counted each time it is reached (what is shared counts as often as it is met; a slice's spare places count too). A statement '..UptoSaid' is the law's where the arguments, and the package variables that the reading takes, are together of bulk at most 1048576: NARROWER than '..Said'. Prove '..Said' where nothing that the law and all that it calls make is longer than what came in: it says more and counts as full. Else prove '..UptoSaid'. A law counts once. -/
mutual
def uptoBulk {H : Type} : DataW H → Nat
  | .lit (.string bytes) => bytes.length + 1
  | .lit _ => 1
  | .nil => 1
  | .ptr d => uptoBulk d + 1
  | .slice elems spare => uptoBulkAll elems + uptoBulkAll spare + 1
  | .agg parts => uptoBulkAll parts + 1
  | .iface _ d => uptoBulk d + 1
  | .map entries => uptoBulkEntries entries + 1
  | .held _ => 1
def uptoBulkAll {H : Type} : List (DataW H) → Nat
  | [] => 0
  | d :: r => uptoBulk d + uptoBulkAll r
def uptoBulkEntries {H : Type} : List (Lit × DataW H) → Nat
  | [] => 0
  | x :: r => uptoBulkEntry x + uptoBulkEntries r
def uptoBulkEntry {H : Type} : Lit × DataW H → Nat
  | (.string bytes, d) => bytes.length + uptoBulk d + 1
  | (_, d) => uptoBulk d + 1
 end
def uptoSmall : (H : Type) → List (DataW H) → Bool := fun _ ds => decide (uptoBulkAll ds ≤ 1048576)
def OpenSpec.upto (s : _root_.Go.ChangeSpec) : _root_.Go.OpenSpec := { _root_.Go.OpenSpec.ofChange s with cond := some uptoSmall }

/-- 'n010_66.FnCStyleLoopSpanNonEmpty', WHERE WHAT IT READS IS OF BULK AT MOST 1048576: true; the input reads as it did. -/
def fnCStyleLoopSpanNonEmptyUptoRow : OpenClaim := { program := "ytngbfadnmeohnaa", sum := "07c36f5d1c080857e045d941bb6088a17c416d878a8ea4abaf299007f37f6380", func := "mvdan.cc/sh/v3/n010_66.FnCStyleLoopSpanNonEmpty", spec := "fnCStyleLoopSpanNonEmpty", apart := false, narrowed := true }
def FnCStyleLoopSpanNonEmptyUptoSaid : Prop := fnCStyleLoopSpanNonEmptyUptoRow.holds Try.pinned (OpenSpec.upto fnCStyleLoopSpanNonEmptySpec)

/-- 'n010_98.FnForClauseSpanNonEmpty', WHERE WHAT IT READS IS OF BULK AT MOST 1048576: true; the input reads as it did. -/
def fnForClauseSpanNonEmptyUptoRow : OpenClaim := { program := "ytngbfadnmeohnaa", sum := "07c36f5d1c080857e045d941bb6088a17c416d878a8ea4abaf299007f37f6380", func := "mvdan.cc/sh/v3/n010_98.FnForClauseSpanNonEmpty", spec := "fnForClauseSpanNonEmpty", apart := false, narrowed := true }
def FnForClauseSpanNonEmptyUptoSaid : Prop := fnForClauseSpanNonEmptyUptoRow.holds Try.pinned (OpenSpec.upto fnForClauseSpanNonEmptySpec)

/-- 'n010_74.FnIfClauseEndIsTwoSingleSteps', WHERE WHAT IT READS IS OF BULK AT MOST 1048576: true; the input reads as it did. -/
def fnIfClauseEndIsTwoSingleStepsUptoRow : OpenClaim := { program := "ytngbfadnmeohnaa", sum := "07c36f5d1c080857e045d941bb6088a17c416d878a8ea4abaf299007f37f6380", func := "mvdan.cc/sh/v3/n010_74.FnIfClauseEndIsTwoSingleSteps", spec := "fnIfClauseEndIsTwoSingleSteps", apart := false, narrowed := true }
def FnIfClauseEndIsTwoSingleStepsUptoSaid : Prop := fnIfClauseEndIsTwoSingleStepsUptoRow.holds Try.pinned (OpenSpec.upto fnIfClauseEndIsTwoSingleStepsSpec)

/-- 'n010_76.FnPosAddColUndo', WHERE WHAT IT READS IS OF BULK AT MOST 1048576: true; the input reads as it did. -/
def fnPosAddColUndoUptoRow : OpenClaim := { program := "ytngbfadnmeohnaa", sum := "07c36f5d1c080857e045d941bb6088a17c416d878a8ea4abaf299007f37f6380", func := "mvdan.cc/sh/v3/n010_76.FnPosAddColUndo", spec := "fnPosAddColUndo", apart := false, narrowed := true }
def FnPosAddColUndoUptoSaid : Prop := fnPosAddColUndoUptoRow.holds Try.pinned (OpenSpec.upto fnPosAddColUndoSpec)

/-- 'n010_66.FnWordIterPosSpan', WHERE WHAT IT READS IS OF BULK AT MOST 1048576: true; the input reads as it did. -/
def fnWordIterPosSpanUptoRow : OpenClaim := { program := "ytngbfadnmeohnaa", sum := "07c36f5d1c080857e045d941bb6088a17c416d878a8ea4abaf299007f37f6380", func := "mvdan.cc/sh/v3/n010_66.FnWordIterPosSpan", spec := "fnWordIterPosSpan", unfollowed := true, recurses := true, apart := false, narrowed := true }
def FnWordIterPosSpanUptoSaid : Prop := fnWordIterPosSpanUptoRow.holds Try.pinned (OpenSpec.upto fnWordIterPosSpanSpec)

/-- 'n010_74.FnIfClauseSpanOrdered', WHERE WHAT IT READS IS OF BULK AT MOST 1048576: true; the input reads as it did. -/
def fnIfClauseSpanOrderedUptoRow : OpenClaim := { program := "ytngbfadnmeohnaa", sum := "07c36f5d1c080857e045d941bb6088a17c416d878a8ea4abaf299007f37f6380", func := "mvdan.cc/sh/v3/n010_74.FnIfClauseSpanOrdered", spec := "fnIfClauseSpanOrdered", apart := false, narrowed := true }
def FnIfClauseSpanOrderedUptoSaid : Prop := fnIfClauseSpanOrderedUptoRow.holds Try.pinned (OpenSpec.upto fnIfClauseSpanOrderedSpec)

/-- 'n010_76.FnCommentEndAfterPos', WHERE WHAT IT READS IS OF BULK AT MOST 1048576: true; the input reads as it did. -/
def fnCommentEndAfterPosUptoRow : OpenClaim := { program := "ytngbfadnmeohnaa", sum := "07c36f5d1c080857e045d941bb6088a17c416d878a8ea4abaf299007f37f6380", func := "mvdan.cc/sh/v3/n010_76.FnCommentEndAfterPos", spec := "fnCommentEndAfterPos", apart := false, narrowed := true }
def FnCommentEndAfterPosUptoSaid : Prop := fnCommentEndAfterPosUptoRow.holds Try.pinned (OpenSpec.upto fnCommentEndAfterPosSpec)

end Rows
end Go.Proofs.Ytngbfadnmeohnaa
