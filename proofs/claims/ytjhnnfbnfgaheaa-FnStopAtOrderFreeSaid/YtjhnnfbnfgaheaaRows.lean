/-
  No cell of these rows narrows 'for every input' (looked for: loops, veiled, ifaces, maps, wideKeys, modest, calm, conditions, laid).
  DERIVED. THE GIVEN ROWS OF THIS SEAT. 3 by the template 'for every input the law returns true; each argument reads behind the call as it read before'; 0 by the template 'total and deterministic' (their statements: YtjhnnfbnfgaheaaTotals.lean).
  GIVEN WITH THE SEED: the statements are not yours to turn. If you find one false, say at which input.
  Laid BY PROGRAM, IN A SANDBOX (cutbox-rows.mjs): the forced cells as the released guide's own fill.sh prints them over the translation 517705c21e5c71c8… (all of the seat's roots in one cut). By AI agents, Wed Nov 11 2026. No macro, syntax, notation, axiom, sorry.
-/
import Derived.Test.YtjhnnfbnfgaheaaChecked
import GoSem.Claim
import GoSem.ClaimJoined
import GoSem.ClaimMapViews
import Derived.JoinedTies
import Derived.KernelRfl
namespace Go.Proofs.Ytjhnnfbnfgaheaa
/- THE CELL 'sum', in the pinned program and in every row, IS THE sha256 OF THE DUMP (.gsa) THAT YtjhnnfbnfgaheaaProg.lean LOADS. Nothing in Lean hashes anything: it is a label: what it is worth is what the hold of that sum in a sandbox is worth. -/
noncomputable def Try.pinned : Pinned := { name := "ytjhnnfbnfgaheaa", sum := "517705c21e5c71c8047f5a345a94092191f4afa9f28383090d82d4a1cde1c4df", checked := Try.checked }
namespace Rows
def none {H : Type} : Left H := { results := [], args := [] }

/-- 'n010_88.FnStopAtOrderFree': WHATEVER THE INPUT: true; the input reads as it did. -/
def fnStopAtOrderFreeSpec : ChangeSpec := { name := "fnStopAtOrderFree", fn := fun _ => fun
  | [d1, d2, d3] => { results := [.lit (.bool true)], args := [d1, d2, d3] }
  | _ => none }
def fnStopAtOrderFreeRow : OpenClaim := { program := "ytjhnnfbnfgaheaa", sum := "517705c21e5c71c8047f5a345a94092191f4afa9f28383090d82d4a1cde1c4df", func := "mvdan.cc/sh/v3/n010_88.FnStopAtOrderFree", spec := "fnStopAtOrderFree", inPlace := ["internal/bytealg.IndexByteString", "internal/bytealg.IndexString"], unfollowed := true, recurses := true, named := ["internal/bytealg.MaxLen"], apart := false }
def FnStopAtOrderFreeSaid : Prop := fnStopAtOrderFreeRow.holds Try.pinned (OpenSpec.ofChange fnStopAtOrderFreeSpec)

/-- ITS FALSE NEIGHBOUR: 'it returns false'. Refute it at one input. -/
def fnStopAtOrderFreeWrong : ChangeSpec := { name := "fnStopAtOrderFree", fn := fun _ => fun
  | [d1, d2, d3] => { results := [.lit (.bool false)], args := [d1, d2, d3] }
  | _ => none }
def FnStopAtOrderFreeWrongFalsely : Prop := fnStopAtOrderFreeRow.holds Try.pinned (OpenSpec.ofChange fnStopAtOrderFreeWrong)

/-- 'n010_88.FnCountAgreesWithBitsAndAdds': WHATEVER THE INPUT: true; the input reads as it did. -/
def fnCountAgreesWithBitsAndAddsSpec : ChangeSpec := { name := "fnCountAgreesWithBitsAndAdds", fn := fun _ => fun
  | [d1, d2] => { results := [.lit (.bool true)], args := [d1, d2] }
  | _ => none }
def fnCountAgreesWithBitsAndAddsRow : OpenClaim := { program := "ytjhnnfbnfgaheaa", sum := "517705c21e5c71c8047f5a345a94092191f4afa9f28383090d82d4a1cde1c4df", func := "mvdan.cc/sh/v3/n010_88.FnCountAgreesWithBitsAndAdds", spec := "fnCountAgreesWithBitsAndAdds", unfollowed := true, recurses := true, apart := false }
def FnCountAgreesWithBitsAndAddsSaid : Prop := fnCountAgreesWithBitsAndAddsRow.holds Try.pinned (OpenSpec.ofChange fnCountAgreesWithBitsAndAddsSpec)

/-- ITS FALSE NEIGHBOUR: 'it returns false'. Refute it at one input. -/
def fnCountAgreesWithBitsAndAddsWrong : ChangeSpec := { name := "fnCountAgreesWithBitsAndAdds", fn := fun _ => fun
  | [d1, d2] => { results := [.lit (.bool false)], args := [d1, d2] }
  | _ => none }
def FnCountAgreesWithBitsAndAddsWrongFalsely : Prop := fnCountAgreesWithBitsAndAddsRow.holds Try.pinned (OpenSpec.ofChange fnCountAgreesWithBitsAndAddsWrong)

/-- 'n010_88.FnBitsStopsEarly': WHATEVER THE INPUT: true; the input reads as it did. -/
def fnBitsStopsEarlySpec : ChangeSpec := { name := "fnBitsStopsEarly", fn := fun _ => fun
  | [d1, d2] => { results := [.lit (.bool true)], args := [d1, d2] }
  | _ => none }
def fnBitsStopsEarlyRow : OpenClaim := { program := "ytjhnnfbnfgaheaa", sum := "517705c21e5c71c8047f5a345a94092191f4afa9f28383090d82d4a1cde1c4df", func := "mvdan.cc/sh/v3/n010_88.FnBitsStopsEarly", spec := "fnBitsStopsEarly", unfollowed := true, recurses := true, apart := false }
def FnBitsStopsEarlySaid : Prop := fnBitsStopsEarlyRow.holds Try.pinned (OpenSpec.ofChange fnBitsStopsEarlySpec)

/-- ITS FALSE NEIGHBOUR: 'it returns false'. Refute it at one input. -/
def fnBitsStopsEarlyWrong : ChangeSpec := { name := "fnBitsStopsEarly", fn := fun _ => fun
  | [d1, d2] => { results := [.lit (.bool false)], args := [d1, d2] }
  | _ => none }
def FnBitsStopsEarlyWrongFalsely : Prop := fnBitsStopsEarlyRow.holds Try.pinned (OpenSpec.ofChange fnBitsStopsEarlyWrong)

/- THE SECOND FORM. 'bulk': how many values and letters a reading holds, each counted each time it is reached (what is shared counts as often as it is met; a slice's spare places count too). A statement '..UptoSaid' is the law's where the arguments, and the package variables that the reading takes, are together of bulk at most 1048576: NARROWER than '..Said'. Prove '..Said' where nothing that the law and all that it calls make is longer than what came in: it says more and counts as full. Else prove '..UptoSaid'. A law counts once. -/
mutual
def uptoBulk {H : Type} : DataW H → Nat
  | .lit (.string bytes) => bytes.length + 1
  | .lit _ => 1
  | .nil => 1
  | .ptr d => uptoBulk d + 1
  | .slice elems spare => uptoBulkAll elems + uptoBulkAll spare + 1
  | .agg parts => uptoBulkAll parts + 1
  | .iface _ d => uptoBulk d + 1
  | .map entries => uptoBulkEntries entries + 1
  | .held _ => 1
def uptoBulkAll {H : Type} : List (DataW H) → Nat
  | [] => 0
  | d :: r => uptoBulk d + uptoBulkAll r
def uptoBulkEntries {H : Type} : List (Lit × DataW H) → Nat
  | [] => 0
  | x :: r => uptoBulkEntry x + uptoBulkEntries r
def uptoBulkEntry {H : Type} : Lit × DataW H → Nat
  | (.string bytes, d) => bytes.length + uptoBulk d + 1
  | (_, d) => uptoBulk d + 1
 end
def uptoSmall : (H : Type) → List (DataW H) → Bool := fun _ ds => decide (uptoBulkAll ds ≤ 1048576)
def OpenSpec.upto (s : _root_.Go.ChangeSpec) : _root_.Go.OpenSpec := { _root_.Go.OpenSpec.ofChange s with cond := some uptoSmall }

/-- 'n010_88.FnStopAtOrderFree', WHERE WHAT IT READS IS OF BULK AT MOST 1048576: true; the input reads as it did. -/
def fnStopAtOrderFreeUptoRow : OpenClaim := { program := "ytjhnnfbnfgaheaa", sum := "517705c21e5c71c8047f5a345a94092191f4afa9f28383090d82d4a1cde1c4df", func := "mvdan.cc/sh/v3/n010_88.FnStopAtOrderFree", spec := "fnStopAtOrderFree", inPlace := ["internal/bytealg.IndexByteString", "internal/bytealg.IndexString"], unfollowed := true, recurses := true, named := ["internal/bytealg.MaxLen"], apart := false, narrowed := true }
def FnStopAtOrderFreeUptoSaid : Prop := fnStopAtOrderFreeUptoRow.holds Try.pinned (OpenSpec.upto fnStopAtOrderFreeSpec)

/-- 'n010_88.FnCountAgreesWithBitsAndAdds', WHERE WHAT IT READS IS OF BULK AT MOST 1048576: true; the input reads as it did. -/
def fnCountAgreesWithBitsAndAddsUptoRow : OpenClaim := { program := "ytjhnnfbnfgaheaa", sum := "517705c21e5c71c8047f5a345a94092191f4afa9f28383090d82d4a1cde1c4df", func := "mvdan.cc/sh/v3/n010_88.FnCountAgreesWithBitsAndAdds", spec := "fnCountAgreesWithBitsAndAdds", unfollowed := true, recurses := true, apart := false, narrowed := true }
def FnCountAgreesWithBitsAndAddsUptoSaid : Prop := fnCountAgreesWithBitsAndAddsUptoRow.holds Try.pinned (OpenSpec.upto fnCountAgreesWithBitsAndAddsSpec)

/-- 'n010_88.FnBitsStopsEarly', WHERE WHAT IT READS IS OF BULK AT MOST 1048576: true; the input reads as it did. -/
def fnBitsStopsEarlyUptoRow : OpenClaim := { program := "ytjhnnfbnfgaheaa", sum := "517705c21e5c71c8047f5a345a94092191f4afa9f28383090d82d4a1cde1c4df", func := "mvdan.cc/sh/v3/n010_88.FnBitsStopsEarly", spec := "fnBitsStopsEarly", unfollowed := true, recurses := true, apart := false, narrowed := true }
def FnBitsStopsEarlyUptoSaid : Prop := fnBitsStopsEarlyUptoRow.holds Try.pinned (OpenSpec.upto fnBitsStopsEarlySpec)

end Rows
end Go.Proofs.Ytjhnnfbnfgaheaa
