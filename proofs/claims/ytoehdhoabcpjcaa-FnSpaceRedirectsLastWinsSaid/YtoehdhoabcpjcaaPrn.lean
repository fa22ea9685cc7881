/-
  What bufio.NewWriter(nil) does: it makes two new blocks (a buffer of 4096 bytes and the Writer) and returns the Writer's address. No conditions.
-/
import Derived.Test.YtoehdhoabcpjcaaRows
import Derived.WalkKit
import Derived.ProofKit
import Derived.OpenShut
import Derived.Handy
import Derived.Lib.Hide
import Derived.Laws.EntriesVeiled
import Derived.Laws.MakeOwn
namespace Go.Proofs.Ytoehdhoabcpjcaa.prn
open Go.ChangeShapes Go.WideShapes Go.ChangeAt Go.RowKit
def buf : Obj := .cells (madeCells #[.int .u8 0] 4096) 5
def wrt (n : Nat) : Obj := .cells #[.nilIface, .slice (some ⟨n, 0, none⟩) 4096 4096, .int .i64 0, .nilIface] 76
theorem grown_buf {W w : World} (h : Grown W w) : Grown W (w.alloc buf) := Grown.alloc h _ _
theorem grown_wrt {W w : World} (n : Nat) (h : Grown W w) : Grown W (w.alloc (wrt n)) := Grown.alloc h _ _
theorem info5 : (Try.prog.info? 5).map (fun i => (i.zero, i.size, i.bytes)) = some (some (.int .u8 0), 1, 1) := by kernel_rfl
theorem ta (w : World) : Sem.run Try.prog (Instr.typeAssert Value.nilIface 50 46 true) w = .ok (.tuple #[.pointer none, .bool false]) w := by kernel_rfl
theorem mk (w : World) : Sem.run Try.prog (Instr.makeSlice 52 (.int .i64 4096) (.int .i64 4096)) w = .ok (.slice (some ⟨w.heap.size, 0, none⟩) 4096 4096) (w.alloc buf) := by
  obtain ⟨i0, hi, hz0, hz1, hz2⟩ := info_parts info5
  have h := run_make (P := Try.prog) w 52 5 i0 (.int .u8 0) Try.underlying52 hi hz0 .i64 .i64 4096 4096 (by omega) (by omega) (by rw [hz2]; omega) (by omega)
  rw [hz1] at h
  exact h
set_option maxRecDepth 100000 in
theorem newWriter (w : World) : Calls Try.prog 30 #[.nilIface] w fun e w' => e = .returned (.pointer (some ⟨w.heap.size + 1, 0, none⟩)) ∧ (w.alloc buf).alloc (wrt w.heap.size) = w' := by
  have h1 := ta
  have h2 := mk
  go_enter Try.func30, Try.ntmps30
  go_wp2
  go_ret
  exact ⟨rfl, rfl⟩
end Go.Proofs.Ytoehdhoabcpjcaa.prn
