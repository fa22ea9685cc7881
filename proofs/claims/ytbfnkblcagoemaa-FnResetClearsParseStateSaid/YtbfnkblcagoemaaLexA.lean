/-
  The one statement of ZZstate, a region of 170 operations: in whatever order they are taken, the last one is last and the others can be taken in the order of the text. No conditions.
-/
import Derived.Test.YtbfnkblcagoemaaPos
import Derived.StillTailTactics
namespace Go.Proofs.Ytbfnkblcagoemaa.resets
open Go.RowKit
noncomputable def big : Code → Array Oper
  | .region _ ops d => if d then ops else #[]
  | .seq a b => if (big a).size = 0 then big b else big a
  | .cond _ a b => if (big a).size = 0 then big b else big a
  | .block _ c | .loop c | .scope c => big c
  | _ => #[]
noncomputable def ops15 : Array Oper := match Try.f15.body with | some c => big c | none => #[]
theorem size15 : ops15.size = 170 := by kernel_rfl
theorem sink15 : Region.sinkB .any ops15 169 = true := by kernel_rfl
theorem chain15 : Region.chainB .any ops15 169 = true := by kernel_rfl
theorem sel15 : Region.noSelect ops15 = true := by kernel_rfl
/-- the first k of n are taken -/
def marks (n k : Nat) : Array Bool := ((List.range n).map fun i => decide (i < k)).toArray
def stepB (ops : Array Oper) (n k : Nat) : Bool := (Region.ready .any ops (marks n k)).contains k && Region.free .any ops (marks n k) k
theorem part0 : ((List.range' 0 10).all fun k => stepB ops15 170 k) = true := by kernel_rfl
theorem part10 : ((List.range' 10 10).all fun k => stepB ops15 170 k) = true := by kernel_rfl
theorem part20 : ((List.range' 20 10).all fun k => stepB ops15 170 k) = true := by kernel_rfl
theorem part30 : ((List.range' 30 10).all fun k => stepB ops15 170 k) = true := by kernel_rfl
theorem part40 : ((List.range' 40 10).all fun k => stepB ops15 170 k) = true := by kernel_rfl
theorem part50 : ((List.range' 50 10).all fun k => stepB ops15 170 k) = true := by kernel_rfl
theorem part60 : ((List.range' 60 10).all fun k => stepB ops15 170 k) = true := by kernel_rfl
theorem part70 : ((List.range' 70 10).all fun k => stepB ops15 170 k) = true := by kernel_rfl
theorem part80 : ((List.range' 80 10).all fun k => stepB ops15 170 k) = true := by kernel_rfl
theorem part90 : ((List.range' 90 10).all fun k => stepB ops15 170 k) = true := by kernel_rfl
theorem part100 : ((List.range' 100 10).all fun k => stepB ops15 170 k) = true := by kernel_rfl
theorem part110 : ((List.range' 110 10).all fun k => stepB ops15 170 k) = true := by kernel_rfl
theorem part120 : ((List.range' 120 10).all fun k => stepB ops15 170 k) = true := by kernel_rfl
theorem part130 : ((List.range' 130 10).all fun k => stepB ops15 170 k) = true := by kernel_rfl
theorem part140 : ((List.range' 140 10).all fun k => stepB ops15 170 k) = true := by kernel_rfl
theorem part150 : ((List.range' 150 10).all fun k => stepB ops15 170 k) = true := by kernel_rfl
theorem part160 : ((List.range' 160 9).all fun k => stepB ops15 170 k) = true := by kernel_rfl
theorem seq15 : Region.seqB .any ops15 1 169 (marks 170 169) = true := by kernel_rfl
end Go.Proofs.Ytbfnkblcagoemaa.resets
