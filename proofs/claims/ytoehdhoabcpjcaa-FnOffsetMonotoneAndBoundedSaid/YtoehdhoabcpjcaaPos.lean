/-
  What NewPos, Pos.Offset, Pos.Line and Pos.Col compute, for every argument that fits its kind: the offset is cut at 2^32-12, a line above 2^18-1 and a column above 2^14-1 become 0, line and column lie in one word. Conditions: each argument fits its Go type.
-/
import Derived.Test.YtoehdhoabcpjcaaRows
import Derived.WalkKit
import Derived.ProofKit
import Derived.OpenShut
import Derived.Lib.Hide
import Derived.Laws.BitsAll
namespace Go.Proofs.Ytoehdhoabcpjcaa.posn
open Go.ChangeShapes Go.WideShapes Go.ChangeAt Go.RowKit

def offN (o : Int) : Int := if o ≤ 4294967284 then o else 4294967284
def lineN (l : Int) : Int := if l ≤ 262143 then l else 0
def colN (c : Int) : Int := if c ≤ 16383 then c else 0
def lcN (l c : Int) : Int := lineN l * 16384 + colN c

theorem offN_bd (o : Int) (h : 0 ≤ o) : 0 ≤ offN o ∧ offN o ≤ 4294967284 := by unfold offN; split <;> omega
theorem lineN_bd (o : Int) (h : 0 ≤ o) : 0 ≤ lineN o ∧ lineN o ≤ 262143 := by unfold lineN; split <;> omega
theorem colN_bd (o : Int) (h : 0 ≤ o) : 0 ≤ colN o ∧ colN o ≤ 16383 := by unfold colN; split <;> omega
theorem lcN_bd (l c : Int) (h : 0 ≤ l) (h' : 0 ≤ c) : 0 ≤ lcN l c ∧ lcN l c ≤ 4294967295 := by
  have := lineN_bd l h; have := colN_bd c h'; unfold lcN; omega
theorem lcN_line (l c : Int) (h : 0 ≤ l) (h' : 0 ≤ c) : lcN l c / 16384 = lineN l := by
  have := lineN_bd l h; have := colN_bd c h'; unfold lcN; omega
theorem lcN_col (l c : Int) (h : 0 ≤ l) (h' : 0 ≤ c) : lcN l c % 16384 = colN c := by
  have := lineN_bd l h; have := colN_bd c h'; unfold lcN; omega

theorem ret_int {k : IntKind} {a b : Int} (h : a = b) : Ending.returned (.int k a) = .returned (.int k b) := by rw [h]
theorem and14 (y : Int) (h1 : 0 ≤ y) (h2 : y ≤ 4294967295) : bits .and .u32 y 16383 = y % 16384 := by
  go_bits2
theorem and14u (y : Int) (h1 : 0 ≤ y) (h2 : y ≤ 4294967295) : IntKind.u64.wrap (bits .and .u32 y 16383) = y % 16384 := by
  rw [and14 y h1 h2, IntKind.wrap_u64]; omega

theorem or14 (L C : Int) (h1 : 0 ≤ L) (h2 : L ≤ 262143) (h3 : 0 ≤ C) (h4 : C ≤ 16383) : bits .or .u32 (L * 16384) C = L * 16384 + C := by
  obtain ⟨x, rfl⟩ := Int.eq_ofNat_of_zero_le h1
  obtain ⟨y, rfl⟩ := Int.eq_ofNat_of_zero_le h3
  rw [u32_or _ _ (by omega) (by omega) (by omega) (by omega)]
  rw [show ((x : Int) * 16384).toNat = x * 16384 by omega, Int.toNat_natCast, nat_join 14 (x * 16384) y (by omega) (by omega)]
  omega
theorem off1 (o : Int) (h : o ≤ 4294967284) : offN o = o := by unfold offN; rw [if_pos h]
theorem off2 (o : Int) (h : 4294967284 < o) : offN o = 4294967284 := by unfold offN; rw [if_neg (by omega)]
theorem lc1 (l c : Int) (h2 : 0 ≤ l) (h3 : 0 ≤ c) (hl : l ≤ 262143) (hc : c ≤ 16383) : lcN l c = bits .or .u32 (l * 16384) c := by
  rw [or14 l c h2 hl h3 hc]; unfold lcN lineN colN; rw [if_pos hl, if_pos hc]
theorem lc2 (l c : Int) (h2 : 0 ≤ l) (hl : l ≤ 262143) (hc : 16383 < c) : lcN l c = bits .or .u32 (l * 16384) 0 := by
  rw [or14 l 0 h2 hl (by omega) (by omega)]; unfold lcN lineN colN; rw [if_pos hl, if_neg (by omega)]
theorem lc3 (l c : Int) (h3 : 0 ≤ c) (hl : 262143 < l) (hc : c ≤ 16383) : lcN l c = bits .or .u32 0 c := by
  have := or14 0 c (by omega) (by omega) h3 hc
  rw [Int.zero_mul] at this; rw [this]; unfold lcN lineN colN; rw [if_neg (by omega), if_pos hc, Int.zero_mul]
theorem lc4 (l c : Int) (hl : 262143 < l) (hc : 16383 < c) : lcN l c = bits .or .u32 0 0 := by
  have := or14 0 0 (by omega) (by omega) (by omega) (by omega)
  rw [Int.zero_mul] at this; rw [this]; unfold lcN lineN colN; rw [if_neg (by omega), if_neg (by omega)]; rfl

theorem newPos_any (o l c : Int) (w : World) (h1 : 0 ≤ o) (h2 : 0 ≤ l) (h3 : 0 ≤ c) :
    Calls Try.prog 19 #[.int .u64 o, .int .u64 l, .int .u64 c] w fun e w' => e = .returned (.agg #[.int .u32 (offN o), .int .u32 (lcN l c)]) ∧ w.alloc (.cells #[.int .u32 (offN o), .int .u32 (lcN l c)] 37) = w' := by
  by_cases c1 : o ≤ 4294967284
  all_goals by_cases c2 : l ≤ 262143
  all_goals by_cases c3 : c ≤ 16383
  all_goals
    go_enter Try.func19, Try.ntmps19
    go_wp2
    first | rw [off1 o (by omega)] | rw [off2 o (by omega)]
    first | rw [lc1 l c h2 h3 (by omega) (by omega)] | rw [lc2 l c h2 (by omega) (by omega)] | rw [lc3 l c h3 (by omega) (by omega)] | rw [lc4 l c (by omega) (by omega)]
    exact bodyPost_ret (v := .agg #[_, _]) (by simp [results, Try.results19, go_sem]) rfl ⟨rfl, rfl⟩
theorem line_any (x y : Int) (w : World) (h1 : 0 ≤ y) (h2 : y ≤ 4294967295) :
    Calls Try.prog 20 #[.agg #[.int .u32 x, .int .u32 y]] w fun e w' => e = .returned (.int .u64 (y / 16384)) ∧ w.alloc (.cells #[.int .u32 x, .int .u32 y] 37) = w' := by
  go_enter Try.func20, Try.ntmps20
  go_wp2
  go_ret
  exact ⟨rfl, rfl⟩
theorem col_any (x y : Int) (w : World) (h1 : 0 ≤ y) (h2 : y ≤ 4294967295) :
    Calls Try.prog 21 #[.agg #[.int .u32 x, .int .u32 y]] w fun e w' => e = .returned (.int .u64 (y % 16384)) ∧ w.alloc (.cells #[.int .u32 x, .int .u32 y] 37) = w' := by
  go_enter Try.func21, Try.ntmps21
  go_wp2
  go_ret
  exact ⟨ret_int (and14u y h1 h2), rfl⟩
theorem offset_any (x y : Int) (w : World) (h1 : 0 ≤ x) (h2 : x ≤ 4294967284) :
    Calls Try.prog 25 #[.agg #[.int .u32 x, .int .u32 y]] w fun e w' => e = .returned (.int .u64 x) ∧ w.alloc (.cells #[.int .u32 x, .int .u32 y] 37) = w' := by
  go_enter Try.func25, Try.ntmps25
  go_wp2
  go_ret
  exact ⟨rfl, rfl⟩

theorem clamp_any (o : Int) (w : World) (h1 : 0 ≤ o) (h2 : o ≤ 18446744073709551615) :
    Calls Try.prog 26 #[.int .u64 o] w fun e w' => e = .returned (.int .u64 (offN o)) ∧ w = w' := by
  by_cases c1 : o ≤ 4294967284
  all_goals
    go_enter Try.func26, Try.ntmps26
    go_wp2
    go_ret
    exact ⟨ret_int (by first | exact (off1 o (by omega)).symm | exact (off2 o (by omega)).symm), rfl⟩
theorem nline_any (o : Int) (w : World) (h1 : 0 ≤ o) (h2 : o ≤ 18446744073709551615) :
    Calls Try.prog 27 #[.int .u64 o] w fun e w' => e = .returned (.int .u64 (lineN o)) ∧ w = w' := by
  by_cases c1 : o ≤ 262143
  · have K := Lib.hid (show o = lineN o by unfold lineN; rw [if_pos c1])
    go_enter Try.func27, Try.ntmps27
    go_wp2
    go_ret
    exact ⟨ret_int K.out, rfl⟩
  · have K := Lib.hid (show 0 = lineN o by unfold lineN; rw [if_neg c1])
    go_enter Try.func27, Try.ntmps27
    go_wp2
    go_ret
    exact ⟨ret_int K.out, rfl⟩
theorem ncol_any (o : Int) (w : World) (h1 : 0 ≤ o) (h2 : o ≤ 18446744073709551615) :
    Calls Try.prog 28 #[.int .u64 o] w fun e w' => e = .returned (.int .u64 (colN o)) ∧ w = w' := by
  by_cases c1 : o ≤ 16383
  · have K := Lib.hid (show o = colN o by unfold colN; rw [if_pos c1])
    go_enter Try.func28, Try.ntmps28
    go_wp2
    go_ret
    exact ⟨ret_int K.out, rfl⟩
  · have K := Lib.hid (show 0 = colN o by unfold colN; rw [if_neg c1])
    go_enter Try.func28, Try.ntmps28
    go_wp2
    go_ret
    exact ⟨ret_int K.out, rfl⟩
theorem wf_u64 {x : Int} (h : (Lit.int .u64 x).wf = true) : 0 ≤ x ∧ x ≤ 18446744073709551615 := by
  simpa [Lit.wf, IntKind.min, IntKind.max, IntKind.signed, IntKind.bits] using h
theorem ret_bool {a b : Bool} (h : a = b) : Ending.returned (.bool a) = .returned (.bool b) := by rw [h]
end Go.Proofs.Ytoehdhoabcpjcaa.posn
