/-
  What ZZstate reads off a parser that was reset. Conditions: as Reset leaves it.
-/
import Derived.Test.YtbfnkblcagoemaaReset
import Derived.WalkSpells
import Derived.StillTailTactics
import Derived.LaidEqlPtr
import Derived.Laws.CopyOwn
import Derived.Laws.Rows
import Derived.Test.YtbfnkblcagoemaaLex
namespace Go.Proofs.Ytbfnkblcagoemaa.resets
open Go.ChangeShapes Go.WideShapes Go.ChangeAt Go.RowKit Go.Proofs.Ytbfnkblcagoemaa.own
set_option linter.unusedVariables false
theorem RD.below {p : Nat} {ah : Option Addr} {ch : Nat} {y6 y32 y33 y34 y19 y20 y21 y23 : Value} {w w' : World} (h : RD p ah ch y6 y32 y33 y34 y19 y20 y21 y23 w) (hb : Below w.heap.size w w') : RD p ah ch y6 y32 y33 y34 y19 y20 y21 y23 w' := by
  have S := fun k v (hk : w.cell? ⟨p, k, none⟩ = some v) => cb hb (by exact h.sz) hk
  have hz := hb.size
  have hs := h.sz
  exact ⟨S _ _ h.c10, S _ _ h.c11, S _ _ h.c18, S _ _ h.c1, S _ _ h.c2, S _ _ h.c12, S _ _ h.c13, S _ _ h.c14, S _ _ h.c3, S _ _ h.c4, S _ _ h.c7, S _ _ h.c8, S _ _ h.c9, S _ _ h.c17, S _ _ h.c24, S _ _ h.c29, S _ _ h.c22, S _ _ h.c26, S _ _ h.c25, S _ _ h.c27, S _ _ h.c28, S _ _ h.c30, S _ _ h.c31, S _ _ h.c35, S _ _ h.c36, S _ _ h.c37, S _ _ h.c38, S _ _ h.c2087, S _ _ h.c6, S _ _ h.c32, S _ _ h.c33, S _ _ h.c34, S _ _ h.c19, S _ _ h.c20, S _ _ h.c21, S _ _ h.c23, by omega⟩
theorem results_cell {fn : Func} {p : Tmp} {ty : TypeId} (h : fn.results = #[.cell p ty]) (tmps : Array Value) (P : Program) (w : World) :
    (results fn tmps).run P w = ((asAddr (tmps.getD p undef)).run P w).andThen fun a w1 => (loadVar ty a).run P w1 := by
  simp only [results, h]
  simp [Sem.run_bind, Result.andThen]
theorem Lib_new (W : World) (o : Obj) : (W.alloc o).drew.heap[W.heap.size]? = some o := by
  show (W.heap.push o)[W.heap.size]? = _
  simp
def zeroState : Array Value := #[.int .u32 0, .string ⟨#[]⟩, .int .i64 0, .bool false, .int .u64 0, .int .i64 0, .int .i64 0, .int .i64 0, .int .i32 0, .int .i64 0, .bool false, .bool false, .bool false, .int .u32 0, .bool false, .int .i64 0, .int .i64 0, .int .i64 0, .bool false, .int .i64 0, .bool false, .bool false, .int .i64 0, .int .i64 0, .bool false, .bool false, .bool false, .bool false, .bool false, .bool false, .int .i64 0, .int .i64 0, .bool false, .bool false, .int .i64 0, .int .i64 0, .string ⟨#[]⟩, .bool false]
/-- the state that was read -/
def stateV (ah : Option Addr) (sb : Bool) (b6 b34 b19 : Bool) (i32 i33 i20 i23 : Int) (st : ByteArray) : Array Value := #[.int .u32 0, .string ⟨#[]⟩, .int .i64 0, .bool true, .int .u64 0, .int .i64 0, .int .i64 1, .int .i64 1, .int .i32 0, .int .i64 0, .bool true, .bool true, .bool false, .int .u32 1, .bool false, .int .i64 0, .int .i64 0, .int .i64 0, .bool ah.isNone, .int .i64 0, .bool true, .bool false, .int .i64 0, .int .i64 0, .bool true, .bool true, .bool true, .bool true, .bool true, .bool b6, .int .i64 i32, .int .i64 i33, .bool b34, .bool b19, .int .i64 i20, .int .i64 i23, .string st, .bool sb]
theorem stateOne (ah : Option Addr) (sb : Bool) (b6 b34 b19 : Bool) (i32 i33 i20 i23 : Int) (st : ByteArray) : (stateV ah sb b6 b34 b19 i32 i33 i20 i23 st).all (·.oneCell') = true := by kernel_rfl
theorem builtState (ah : Option Addr) (sb : Bool) (b6 b34 b19 : Bool) (i32 i33 i20 i23 : Int) (st : ByteArray) : Try.prog.built 36 [(0, .int .u32 0), (1, .string ⟨#[]⟩), (2, .int .i64 0), (3, .bool true), (4, .int .u64 0), (5, .int .i64 0), (6, .int .i64 1), (7, .int .i64 1), (8, .int .i32 0), (9, .int .i64 0), (10, .bool true), (11, .bool true), (12, .bool false), (13, .int .u32 1), (14, .bool false), (15, .int .i64 0), (16, .int .i64 0), (17, .int .i64 0), (18, .bool ah.isNone), (19, .int .i64 0), (20, .bool true), (21, .bool false), (22, .int .i64 0), (23, .int .i64 0), (24, .bool true), (25, .bool true), (26, .bool true), (27, .bool true), (28, .bool true), (29, .bool b6), (30, .int .i64 i32), (31, .int .i64 i33), (32, .bool b34), (33, .bool b19), (34, .int .i64 i20), (35, .int .i64 i23), (36, .string st), (37, .bool sb)] = some (stateV ah sb b6 b34 b19 i32 i33 i20 i23 st) := by kernel_rfl
set_option maxHeartbeats 4000000 in
set_option maxRecDepth 100000 in
theorem state_any (p : Nat) (W : World) (ah : Option Addr) (ch : Nat) (b6 b34 b19 : Bool) (i32 i33 i20 i23 : Int) (sv : Value) (sb : Bool) (st : ByteArray)
    (h : RD p ah ch (.bool b6) (.int .i64 i32) (.int .i64 i33) (.bool b34) (.bool b19) (.int .i64 i20) sv (.int .i64 i23) W)
    (hsg : ∀ w a b, (eqGuard .eql 23 a b sv (.slice none 0 0)).run Try.prog w = .ok () w) (hsb : ∀ w, (binOp .eql 23 sv (.slice none 0 0)).run Try.prog w = .ok (.bool sb) w)
    (hcv : ∀ W2 : World, Below W.heap.size W W2 → (convert 23 9 sv).run Try.prog W2 = .ok (.string st) W2) :
    Calls Try.prog 15 #[.pointer (some ⟨p, 0, none⟩)] W fun e w' => e = .returned (.agg (stateV ah sb b6 b34 b19 i32 i33 i20 i23 st)) ∧ Below W.heap.size W w' := by
  have q23 := fun w a n c => Lib.run_eql_slice_nil (P := Try.prog) w 23 5 a n c 0 0 Try.underlying23
  have q65 := fun w a n c => Lib.run_eql_slice_nil (P := Try.prog) w 65 104 a n c 0 0 Try.underlying65
  have q25 := fun w a n c => Lib.run_eql_slice_nil (P := Try.prog) w 25 23 a n c 0 0 Try.underlying25
  have q66 := fun w a n c => Lib.run_eql_slice_nil (P := Try.prog) w 66 106 a n c 0 0 Try.underlying66
  have q67 := fun w a n c => Lib.run_eql_slice_nil (P := Try.prog) w 67 57 a n c 0 0 Try.underlying67
  have q78 := fun w a n c => Lib.run_eql_slice_nil (P := Try.prog) w 78 118 a n c 0 0 Try.underlying78
  go_enter Try.func15, Try.ntmps15
  go_wp2
  generalize hW : World.alloc _ _ = W1
  have hb1 : Below W.heap.size W W1 := by rw [← hW]; exact (Below.refl _ _).alloc (Nat.le_refl _) _
  obtain ⟨c10, c11, c18, c1, c2, c12, c13, c14, c3, c4, c7, c8, c9, c17, c24, c29, c22, c26, c25, c27, c28, c30, c31, c35, c36, c37, c38, c2087, c6, c32, c33, c34, c19, c20, c21, c23, sz⟩ := h.below hb1
  have hcv1 : Sem.run Try.prog (convert 23 9 sv) { W1 with drawn := W1.drawn + 1 } = .ok (.string st) { W1 with drawn := W1.drawn + 1 } := hcv W1.drew (hb1.trans ⟨rfl, rfl, rfl, Nat.le_refl _, fun _ _ => rfl⟩)
  have hcv2 : Sem.run Try.prog (convert 23 9 sv) W1.drew = .ok (.string st) W1.drew := hcv1
  have qe : ∀ w, (binOp .eql 73 .nilIface .nilIface).run Try.prog w = .ok (.bool true) w := fun w => by kernel_rfl
  obtain ⟨j66, hj66, _⟩ := Option.map_eq_some_iff.1 (show (Try.prog.info? 66).map (·.size) = some 1 by kernel_rfl)
  have qp := fun (w : World) (a : Addr) => run_eql_ptr_same (P := Try.prog) (w := w) (tp := 77) (te := 66) a Try.underlying77 hj66
  clear h hcv
  have hheap : W1.drew.heap[W.heap.size]? = some (.cells zeroState 36 (0, 0)) := by rw [← hW]; exact Lib_new W _
  have HB1 := Lib.hid hb1
  clear hW hb1
  simp only [List.append_eq, List.cons_append, List.nil_append]
  refine wp_region_still_tail 168 (by kernel_rfl) (lex_ofb (by kernel_rfl)) ?_
  simp only [List.take_succ_cons, List.take_zero, List.drop_succ_cons, List.drop_zero]
  repeat still_step
  refine wpStill_nil ?_
  change wpList _ _ _ _ _ W1.drew
  refine posn.wpList_build_at rfl 36 _ rfl _ ?hv _ (builtState ah sb b6 b34 b19 i32 i33 i20 i23 st) ?_
  case hv => simp [go_sem]
  refine wpList_store_row rfl 36 _ _ rfl W.heap.size (stateV ah sb b6 b34 b19 i32 i33 i20 i23 st) (by simp [go_sem]) (by simp [go_sem]) 36 zeroState hheap (by kernel_rfl) rfl (stateOne ah sb b6 b34 b19 i32 i33 i20 i23 st) ?_
  have hload := run_loadVar_row (P := Try.prog) (W1.drew.setRow W.heap.size (stateV ah sb b6 b34 b19 i32 i33 i20 i23 st)) W.heap.size 36 36 (stateV ah sb b6 b34 b19 i32 i33 i20 i23 st) (0, 0) _ (setRow_heap _ _ zeroState _ 36 (0, 0) hheap) Try.underlying36 rfl (by kernel_rfl)
  have hfin : Below W.heap.size W (W1.drew.setRow W.heap.size (stateV ah sb b6 b34 b19 i32 i33 i20 i23 st)) := below_setRow (below_drew HB1.out) (Nat.le_refl _) _
  generalize hst : stateV ah sb b6 b34 b19 i32 i33 i20 i23 st = sv2 at hload hfin
  go_wp2
  refine bodyPost_ret (v := .agg sv2) ?_ rfl ⟨by rw [hst], hfin⟩
  rw [results_cell (show Try.f15.results = #[.cell 2 36] by kernel_rfl)]
  generalize loadVar 36 = L at hload ⊢
  simp [go_sem, hload]
end Go.Proofs.Ytbfnkblcagoemaa.resets
