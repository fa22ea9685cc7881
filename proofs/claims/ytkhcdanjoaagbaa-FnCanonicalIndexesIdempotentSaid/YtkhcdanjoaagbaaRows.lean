/-
  No cell of these rows narrows 'for every input' (looked for: loops, veiled, ifaces, maps, wideKeys, modest, calm, conditions, laid).
  DERIVED. THE GIVEN ROWS OF THIS SEAT. 6 by the template 'for every input the law returns true; each argument reads behind the call as it read before'; 0 by the template 'total and deterministic' (their statements: YtkhcdanjoaagbaaTotals.lean).
  GIVEN WITH THE SEED: the statements are not yours to turn. If you find one false, say at which input.
  Laid BY PROGRAM, IN A SANDBOX (cutbox-rows.mjs): the forced cells as the released guide's own fill.sh prints them over the translation 008ba74a3d6783bc… (all of the seat's roots in one cut). By AI agents, Wed Nov 11 2026. No macro, syntax, notation, axiom, sorry.
-/
import Derived.Test.YtkhcdanjoaagbaaChecked
import GoSem.Claim
import GoSem.ClaimJoined
import GoSem.ClaimMapViews
import Derived.JoinedTies
import Derived.KernelRfl
namespace Go.Proofs.Ytkhcdanjoaagbaa
/- THE CELL 'sum', in the pinned program and in every row, IS THE sha256 OF THE DUMP (.gsa) THAT YtkhcdanjoaagbaaProg.lean LOADS. Nothing in Lean hashes anything: it is a label: what it is worth is what the hold of that sum in a sandbox is worth. -/
noncomputable def Try.pinned : Pinned := { name := "ytkhcdanjoaagbaa", sum := "008ba74a3d6783bc965d18f4ad8ac3767467d38b9d08eefa98be09d37025db53", checked := Try.checked }
namespace Rows
def none {H : Type} : Left H := { results := [], args := [] }

/-- 'n010_6.FnIntPowAddsExponents': WHATEVER THE INPUT: true; the input reads as it did. -/
def fnIntPowAddsExponentsSpec : ChangeSpec := { name := "fnIntPowAddsExponents", fn := fun _ => fun
  | [d1, d2, d3] => { results := [.lit (.bool true)], args := [d1, d2, d3] }
  | _ => none }
def fnIntPowAddsExponentsRow : OpenClaim := { program := "ytkhcdanjoaagbaa", sum := "008ba74a3d6783bc965d18f4ad8ac3767467d38b9d08eefa98be09d37025db53", func := "mvdan.cc/sh/v3/n010_6.FnIntPowAddsExponents", spec := "fnIntPowAddsExponents", apart := false }
def FnIntPowAddsExponentsSaid : Prop := fnIntPowAddsExponentsRow.holds Try.pinned (OpenSpec.ofChange fnIntPowAddsExponentsSpec)

/-- ITS FALSE NEIGHBOUR: 'it returns false'. Refute it at one input. -/
def fnIntPowAddsExponentsWrong : ChangeSpec := { name := "fnIntPowAddsExponents", fn := fun _ => fun
  | [d1, d2, d3] => { results := [.lit (.bool false)], args := [d1, d2, d3] }
  | _ => none }
def FnIntPowAddsExponentsWrongFalsely : Prop := fnIntPowAddsExponentsRow.holds Try.pinned (OpenSpec.ofChange fnIntPowAddsExponentsWrong)

/-- 'n010_6.FnAtoiLargeBaseInvertsFormat': WHATEVER THE INPUT: true; the input reads as it did. -/
def fnAtoiLargeBaseInvertsFormatSpec : ChangeSpec := { name := "fnAtoiLargeBaseInvertsFormat", fn := fun _ => fun
  | [d1, d2, d3] => { results := [.lit (.bool true)], args := [d1, d2, d3] }
  | _ => none }
def fnAtoiLargeBaseInvertsFormatRow : OpenClaim := { program := "ytkhcdanjoaagbaa", sum := "008ba74a3d6783bc965d18f4ad8ac3767467d38b9d08eefa98be09d37025db53", func := "mvdan.cc/sh/v3/n010_6.FnAtoiLargeBaseInvertsFormat", spec := "fnAtoiLargeBaseInvertsFormat", apart := false }
def FnAtoiLargeBaseInvertsFormatSaid : Prop := fnAtoiLargeBaseInvertsFormatRow.holds Try.pinned (OpenSpec.ofChange fnAtoiLargeBaseInvertsFormatSpec)

/-- ITS FALSE NEIGHBOUR: 'it returns false'. Refute it at one input. -/
def fnAtoiLargeBaseInvertsFormatWrong : ChangeSpec := { name := "fnAtoiLargeBaseInvertsFormat", fn := fun _ => fun
  | [d1, d2, d3] => { results := [.lit (.bool false)], args := [d1, d2, d3] }
  | _ => none }
def FnAtoiLargeBaseInvertsFormatWrongFalsely : Prop := fnAtoiLargeBaseInvertsFormatRow.holds Try.pinned (OpenSpec.ofChange fnAtoiLargeBaseInvertsFormatWrong)

/-- 'n010_6.FnAtoiLargeBaseRefuses': WHATEVER THE INPUT: true; the input reads as it did. -/
def fnAtoiLargeBaseRefusesSpec : ChangeSpec := { name := "fnAtoiLargeBaseRefuses", fn := fun _ => fun
  | [d1, d2] => { results := [.lit (.bool true)], args := [d1, d2] }
  | _ => none }
def fnAtoiLargeBaseRefusesRow : OpenClaim := { program := "ytkhcdanjoaagbaa", sum := "008ba74a3d6783bc965d18f4ad8ac3767467d38b9d08eefa98be09d37025db53", func := "mvdan.cc/sh/v3/n010_6.FnAtoiLargeBaseRefuses", spec := "fnAtoiLargeBaseRefuses", apart := false }
def FnAtoiLargeBaseRefusesSaid : Prop := fnAtoiLargeBaseRefusesRow.holds Try.pinned (OpenSpec.ofChange fnAtoiLargeBaseRefusesSpec)

/-- ITS FALSE NEIGHBOUR: 'it returns false'. Refute it at one input. -/
def fnAtoiLargeBaseRefusesWrong : ChangeSpec := { name := "fnAtoiLargeBaseRefuses", fn := fun _ => fun
  | [d1, d2] => { results := [.lit (.bool false)], args := [d1, d2] }
  | _ => none }
def FnAtoiLargeBaseRefusesWrongFalsely : Prop := fnAtoiLargeBaseRefusesRow.holds Try.pinned (OpenSpec.ofChange fnAtoiLargeBaseRefusesWrong)

/-- 'n010_4.FnHasMetaFalseOnFullyEscaped': WHATEVER THE INPUT: true; the input reads as it did. -/
def fnHasMetaFalseOnFullyEscapedSpec : ChangeSpec := { name := "fnHasMetaFalseOnFullyEscaped", fn := fun _ => fun
  | [d] => { results := [.lit (.bool true)], args := [d] }
  | _ => none }
def fnHasMetaFalseOnFullyEscapedRow : OpenClaim := { program := "ytkhcdanjoaagbaa", sum := "008ba74a3d6783bc965d18f4ad8ac3767467d38b9d08eefa98be09d37025db53", func := "mvdan.cc/sh/v3/n010_4.FnHasMetaFalseOnFullyEscaped", spec := "fnHasMetaFalseOnFullyEscaped", apart := false }
def FnHasMetaFalseOnFullyEscapedSaid : Prop := fnHasMetaFalseOnFullyEscapedRow.holds Try.pinned (OpenSpec.ofChange fnHasMetaFalseOnFullyEscapedSpec)

/-- ITS FALSE NEIGHBOUR: 'it returns false'. Refute it at one input. -/
def fnHasMetaFalseOnFullyEscapedWrong : ChangeSpec := { name := "fnHasMetaFalseOnFullyEscaped", fn := fun _ => fun
  | [d] => { results := [.lit (.bool false)], args := [d] }
  | _ => none }
def FnHasMetaFalseOnFullyEscapedWrongFalsely : Prop := fnHasMetaFalseOnFullyEscapedRow.holds Try.pinned (OpenSpec.ofChange fnHasMetaFalseOnFullyEscapedWrong)

/-- 'n010_4.FnHasMetaMatchesEscapeRunModel': WHATEVER THE INPUT: true; the input reads as it did. -/
def fnHasMetaMatchesEscapeRunModelSpec : ChangeSpec := { name := "fnHasMetaMatchesEscapeRunModel", fn := fun _ => fun
  | [d1, d2, d3] => { results := [.lit (.bool true)], args := [d1, d2, d3] }
  | _ => none }
def fnHasMetaMatchesEscapeRunModelRow : OpenClaim := { program := "ytkhcdanjoaagbaa", sum := "008ba74a3d6783bc965d18f4ad8ac3767467d38b9d08eefa98be09d37025db53", func := "mvdan.cc/sh/v3/n010_4.FnHasMetaMatchesEscapeRunModel", spec := "fnHasMetaMatchesEscapeRunModel", apart := false }
def FnHasMetaMatchesEscapeRunModelSaid : Prop := fnHasMetaMatchesEscapeRunModelRow.holds Try.pinned (OpenSpec.ofChange fnHasMetaMatchesEscapeRunModelSpec)

/-- ITS FALSE NEIGHBOUR: 'it returns false'. Refute it at one input. -/
def fnHasMetaMatchesEscapeRunModelWrong : ChangeSpec := { name := "fnHasMetaMatchesEscapeRunModel", fn := fun _ => fun
  | [d1, d2, d3] => { results := [.lit (.bool false)], args := [d1, d2, d3] }
  | _ => none }
def FnHasMetaMatchesEscapeRunModelWrongFalsely : Prop := fnHasMetaMatchesEscapeRunModelRow.holds Try.pinned (OpenSpec.ofChange fnHasMetaMatchesEscapeRunModelWrong)

/-- 'n010_5.FnCanonicalIndexesIdempotent': WHATEVER THE INPUT: true; the input reads as it did. -/
def fnCanonicalIndexesIdempotentSpec : ChangeSpec := { name := "fnCanonicalIndexesIdempotent", fn := fun _ => fun
  | [d] => { results := [.lit (.bool true)], args := [d] }
  | _ => none }
def fnCanonicalIndexesIdempotentRow : OpenClaim := { program := "ytkhcdanjoaagbaa", sum := "008ba74a3d6783bc965d18f4ad8ac3767467d38b9d08eefa98be09d37025db53", func := "mvdan.cc/sh/v3/n010_5.FnCanonicalIndexesIdempotent", spec := "fnCanonicalIndexesIdempotent", apart := false }
def FnCanonicalIndexesIdempotentSaid : Prop := fnCanonicalIndexesIdempotentRow.holds Try.pinned (OpenSpec.ofChange fnCanonicalIndexesIdempotentSpec)

/-- ITS FALSE NEIGHBOUR: 'it returns false'. Refute it at one input. -/
def fnCanonicalIndexesIdempotentWrong : ChangeSpec := { name := "fnCanonicalIndexesIdempotent", fn := fun _ => fun
  | [d] => { results := [.lit (.bool false)], args := [d] }
  | _ => none }
def FnCanonicalIndexesIdempotentWrongFalsely : Prop := fnCanonicalIndexesIdempotentRow.holds Try.pinned (OpenSpec.ofChange fnCanonicalIndexesIdempotentWrong)

/- THE SECOND FORM. 'bulk': how many values and letters a reading holds, each counted each time it is reached (what is shared counts as often as it is met; a slice's spare places count too). A statement '..UptoSaid' is the law's where the arguments, and the package variables that the reading takes, are together of bulk at most 1048576: NARROWER than '..Said'. Prove '..Said' where nothing that the law and all that it calls make is longer than what came in: it says more and counts as full. Else prove '..UptoSaid'. A law counts once. -/
mutual
def uptoBulk {H : Type} : DataW H → Nat
  | .lit (.string bytes) => bytes.length + 1
  | .lit _ => 1
  | .nil => 1
  | .ptr d => uptoBulk d + 1
  | .slice elems spare => uptoBulkAll elems + uptoBulkAll spare + 1
  | .agg parts => uptoBulkAll parts + 1
  | .iface _ d => uptoBulk d + 1
  | .map entries => uptoBulkEntries entries + 1
  | .held _ => 1
def uptoBulkAll {H : Type} : List (DataW H) → Nat
  | [] => 0
  | d :: r => uptoBulk d + uptoBulkAll r
def uptoBulkEntries {H : Type} : List (Lit × DataW H) → Nat
  | [] => 0
  | x :: r => uptoBulkEntry x + uptoBulkEntries r
def uptoBulkEntry {H : Type} : Lit × DataW H → Nat
  | (.string bytes, d) => bytes.length + uptoBulk d + 1
  | (_, d) => uptoBulk d + 1
 end
def uptoSmall : (H : Type) → List (DataW H) → Bool := fun _ ds => decide (uptoBulkAll ds ≤ 1048576)
def OpenSpec.upto (s : _root_.Go.ChangeSpec) : _root_.Go.OpenSpec := { _root_.Go.OpenSpec.ofChange s with cond := some uptoSmall }

/-- 'n010_6.FnIntPowAddsExponents', WHERE WHAT IT READS IS OF BULK AT MOST 1048576: true; the input reads as it did. -/
def fnIntPowAddsExponentsUptoRow : OpenClaim := { program := "ytkhcdanjoaagbaa", sum := "008ba74a3d6783bc965d18f4ad8ac3767467d38b9d08eefa98be09d37025db53", func := "mvdan.cc/sh/v3/n010_6.FnIntPowAddsExponents", spec := "fnIntPowAddsExponents", apart := false, narrowed := true }
def FnIntPowAddsExponentsUptoSaid : Prop := fnIntPowAddsExponentsUptoRow.holds Try.pinned (OpenSpec.upto fnIntPowAddsExponentsSpec)

/-- 'n010_6.FnAtoiLargeBaseInvertsFormat', WHERE WHAT IT READS IS OF BULK AT MOST 1048576: true; the input reads as it did. -/
def fnAtoiLargeBaseInvertsFormatUptoRow : OpenClaim := { program := "ytkhcdanjoaagbaa", sum := "008ba74a3d6783bc965d18f4ad8ac3767467d38b9d08eefa98be09d37025db53", func := "mvdan.cc/sh/v3/n010_6.FnAtoiLargeBaseInvertsFormat", spec := "fnAtoiLargeBaseInvertsFormat", apart := false, narrowed := true }
def FnAtoiLargeBaseInvertsFormatUptoSaid : Prop := fnAtoiLargeBaseInvertsFormatUptoRow.holds Try.pinned (OpenSpec.upto fnAtoiLargeBaseInvertsFormatSpec)

/-- 'n010_6.FnAtoiLargeBaseRefuses', WHERE WHAT IT READS IS OF BULK AT MOST 1048576: true; the input reads as it did. -/
def fnAtoiLargeBaseRefusesUptoRow : OpenClaim := { program := "ytkhcdanjoaagbaa", sum := "008ba74a3d6783bc965d18f4ad8ac3767467d38b9d08eefa98be09d37025db53", func := "mvdan.cc/sh/v3/n010_6.FnAtoiLargeBaseRefuses", spec := "fnAtoiLargeBaseRefuses", apart := false, narrowed := true }
def FnAtoiLargeBaseRefusesUptoSaid : Prop := fnAtoiLargeBaseRefusesUptoRow.holds Try.pinned (OpenSpec.upto fnAtoiLargeBaseRefusesSpec)

/-- 'n010_4.FnHasMetaFalseOnFullyEscaped', WHERE WHAT IT READS IS OF BULK AT MOST 1048576: true; the input reads as it did. -/
def fnHasMetaFalseOnFullyEscapedUptoRow : OpenClaim := { program := "ytkhcdanjoaagbaa", sum := "008ba74a3d6783bc965d18f4ad8ac3767467d38b9d08eefa98be09d37025db53", func := "mvdan.cc/sh/v3/n010_4.FnHasMetaFalseOnFullyEscaped", spec := "fnHasMetaFalseOnFullyEscaped", apart := false, narrowed := true }
def FnHasMetaFalseOnFullyEscapedUptoSaid : Prop := fnHasMetaFalseOnFullyEscapedUptoRow.holds Try.pinned (OpenSpec.upto fnHasMetaFalseOnFullyEscapedSpec)

/-- 'n010_4.FnHasMetaMatchesEscapeRunModel', WHERE WHAT IT READS IS OF BULK AT MOST 1048576: true; the input reads as it did. -/
def fnHasMetaMatchesEscapeRunModelUptoRow : OpenClaim := { program := "ytkhcdanjoaagbaa", sum := "008ba74a3d6783bc965d18f4ad8ac3767467d38b9d08eefa98be09d37025db53", func := "mvdan.cc/sh/v3/n010_4.FnHasMetaMatchesEscapeRunModel", spec := "fnHasMetaMatchesEscapeRunModel", apart := false, narrowed := true }
def FnHasMetaMatchesEscapeRunModelUptoSaid : Prop := fnHasMetaMatchesEscapeRunModelUptoRow.holds Try.pinned (OpenSpec.upto fnHasMetaMatchesEscapeRunModelSpec)

/-- 'n010_5.FnCanonicalIndexesIdempotent', WHERE WHAT IT READS IS OF BULK AT MOST 1048576: true; the input reads as it did. -/
def fnCanonicalIndexesIdempotentUptoRow : OpenClaim := { program := "ytkhcdanjoaagbaa", sum := "008ba74a3d6783bc965d18f4ad8ac3767467d38b9d08eefa98be09d37025db53", func := "mvdan.cc/sh/v3/n010_5.FnCanonicalIndexesIdempotent", spec := "fnCanonicalIndexesIdempotent", apart := false, narrowed := true }
def FnCanonicalIndexesIdempotentUptoSaid : Prop := fnCanonicalIndexesIdempotentUptoRow.holds Try.pinned (OpenSpec.upto fnCanonicalIndexesIdempotentSpec)

end Rows
end Go.Proofs.Ytkhcdanjoaagbaa
