/-
  What the methods of Pos and posAddCol compute, in closed form over the two words of a position. Conditions: the words fit uint32; posAddCol's shift is between -2^41 and 2^41.
-/
import Derived.Test.YtngbfadnmeohnaaRows
import Derived.WalkKit
import Derived.ProofKit
import Derived.OpenShut
import Derived.Handy
import Derived.Lib.Hide
import Derived.Laws.BitsAll
namespace Go.Proofs.Ytngbfadnmeohnaa.posn
open Go.ChangeShapes Go.WideShapes Go.ChangeAt Go.RowKit

theorem ret_int {k : IntKind} {a b : Int} (h : a = b) : Ending.returned (.int k a) = .returned (.int k b) := by rw [h]
theorem ret_bool {a b : Bool} (h : a = b) : Ending.returned (.bool a) = .returned (.bool b) := by rw [h]
theorem wf_u64 {x : Int} (h : (Lit.int .u64 x).wf = true) : 0 ≤ x ∧ x ≤ 18446744073709551615 := by
  simpa [Lit.wf, IntKind.min, IntKind.max, IntKind.signed, IntKind.bits] using h
theorem wf_u32 {x : Int} (h : (Lit.int .u32 x).wf = true) : 0 ≤ x ∧ x ≤ 4294967295 := by
  simpa [Lit.wf, IntKind.min, IntKind.max, IntKind.signed, IntKind.bits] using h
theorem wf_i64 {x : Int} (h : (Lit.int .i64 x).wf = true) : -9223372036854775808 ≤ x ∧ x ≤ 9223372036854775807 := by
  simpa [Lit.wf, IntKind.min, IntKind.max, IntKind.signed, IntKind.bits] using h

def addOff (x n : Int) : Int := if x + n < 0 then 0 else if 4294967284 < x + n then 4294967284 else x + n
def addCol (y n : Int) : Int := if y % 16384 = 0 then 0 else if y % 16384 + n < 1 ∨ 16383 < y % 16384 + n then 0 else y % 16384 + n
def addLC (y n : Int) : Int := y / 16384 * 16384 + addCol y n

theorem addOff_bd (x n : Int) : 0 ≤ addOff x n ∧ addOff x n ≤ 4294967284 := by unfold addOff; split <;> (try split) <;> omega
theorem addCol_bd (y n : Int) : 0 ≤ addCol y n ∧ addCol y n ≤ 16383 := by unfold addCol; split <;> (try split) <;> omega
theorem addLC_bd (y n : Int) (h1 : 0 ≤ y) (h2 : y ≤ 4294967295) : 0 ≤ addLC y n ∧ addLC y n ≤ 4294967295 := by
  have := addCol_bd y n; unfold addLC; omega
theorem addLC_line (y n : Int) : addLC y n / 16384 = y / 16384 := by
  have := addCol_bd y n; unfold addLC; omega
theorem addLC_col (y n : Int) : addLC y n % 16384 = addCol y n := by
  have := addCol_bd y n; unfold addLC; omega

theorem and14 (y : Int) (h1 : 0 ≤ y) (h2 : y ≤ 4294967295) : bits .and .u32 y 16383 = y % 16384 := by
  go_bits2
theorem and14u (y : Int) (h1 : 0 ≤ y) (h2 : y ≤ 4294967295) : IntKind.u64.wrap (bits .and .u32 y 16383) = y % 16384 := by
  rw [and14 y h1 h2, IntKind.wrap_u64]; omega
theorem not14 (y : Int) (h1 : 0 ≤ y) (h2 : y ≤ 4294967295) : bits .andNot .u32 y 16383 = y / 16384 * 16384 := by
  go_bits2
theorem or14 (L C : Int) (h1 : 0 ≤ L) (h2 : L ≤ 262143) (h3 : 0 ≤ C) (h4 : C ≤ 16383) : bits .or .u32 (L * 16384) C = L * 16384 + C := by
  obtain ⟨x, rfl⟩ := Int.eq_ofNat_of_zero_le h1
  obtain ⟨y, rfl⟩ := Int.eq_ofNat_of_zero_le h3
  rw [u32_or _ _ (by omega) (by omega) (by omega) (by omega)]
  rw [show ((x : Int) * 16384).toNat = x * 16384 by omega, Int.toNat_natCast, nat_join 14 (x * 16384) y (by omega) (by omega)]
  omega
/-- the last word that posAddCol stores, whatever new column c it came to -/
theorem join14 (y c : Int) (h1 : 0 ≤ y) (h2 : y ≤ 4294967295) (h3 : 0 ≤ c) (h4 : c ≤ 16383) : bits .or .u32 (bits .andNot .u32 y 16383) c = y / 16384 * 16384 + c := by
  rw [not14 y h1 h2]; exact or14 _ _ (by omega) (by omega) h3 h4

theorem valid_yes (x y : Int) (w : World) (h1 : x ≤ 4294967284) (h2 : (y != 0) = true) :
    Calls Try.prog 21 #[.agg #[.int .u32 x, .int .u32 y]] w fun e w' => e = .returned (.bool true) ∧ w.alloc (.cells #[.int .u32 x, .int .u32 y] 26) = w' := by
  go_enter Try.func21, Try.ntmps21
  go_wp2
  go_ret
  exact ⟨rfl, rfl⟩
theorem valid_big (x y : Int) (w : World) (h1 : 4294967284 < x) :
    Calls Try.prog 21 #[.agg #[.int .u32 x, .int .u32 y]] w fun e w' => e = .returned (.bool false) ∧ w.alloc (.cells #[.int .u32 x, .int .u32 y] 26) = w' := by
  go_enter Try.func21, Try.ntmps21
  go_wp2
  go_ret
  exact ⟨rfl, rfl⟩
theorem valid_zero (x : Int) (w : World) :
    Calls Try.prog 21 #[.agg #[.int .u32 x, .int .u32 0]] w fun e w' => e = .returned (.bool false) ∧ w.alloc (.cells #[.int .u32 x, .int .u32 0] 26) = w' := by
  by_cases h1 : x ≤ 4294967284
  all_goals
    go_enter Try.func21, Try.ntmps21
    go_wp2
    go_ret
    exact ⟨rfl, rfl⟩
theorem line_any (x y : Int) (w : World) (h1 : 0 ≤ y) (h2 : y ≤ 4294967295) :
    Calls Try.prog 22 #[.agg #[.int .u32 x, .int .u32 y]] w fun e w' => e = .returned (.int .u64 (y / 16384)) ∧ w.alloc (.cells #[.int .u32 x, .int .u32 y] 26) = w' := by
  go_enter Try.func22, Try.ntmps22
  go_wp2
  go_ret
  exact ⟨rfl, rfl⟩
theorem col_any (x y : Int) (w : World) (h1 : 0 ≤ y) (h2 : y ≤ 4294967295) :
    Calls Try.prog 42 #[.agg #[.int .u32 x, .int .u32 y]] w fun e w' => e = .returned (.int .u64 (y % 16384)) ∧ w.alloc (.cells #[.int .u32 x, .int .u32 y] 26) = w' := by
  go_enter Try.func42, Try.ntmps42
  go_wp2
  go_ret
  exact ⟨ret_int (and14u y h1 h2), rfl⟩
theorem offset_any (x y : Int) (w : World) (h1 : 0 ≤ x) (h2 : x ≤ 4294967284) :
    Calls Try.prog 38 #[.agg #[.int .u32 x, .int .u32 y]] w fun e w' => e = .returned (.int .u64 x) ∧ w.alloc (.cells #[.int .u32 x, .int .u32 y] 26) = w' := by
  go_enter Try.func38, Try.ntmps38
  go_wp2
  go_ret
  exact ⟨rfl, rfl⟩
/-- After at a valid first position -/
theorem after_valid (x y u v : Int) (w : World) (h1 : x ≤ 4294967284) (h2 : (y != 0) = true) :
    Calls Try.prog 15 #[.agg #[.int .u32 x, .int .u32 y], .agg #[.int .u32 u, .int .u32 v]] w fun e w' => e = .returned (.bool (decide (u < x))) ∧
      ((w.alloc (.cells #[.int .u32 x, .int .u32 y] 26)).alloc (.cells #[.int .u32 u, .int .u32 v] 26)).alloc (.cells #[.int .u32 x, .int .u32 y] 26) = w' := by
  go_enter Try.func15, Try.ntmps15
  go_wp2_with fail
  refine (valid_yes _ _ _ h1 h2).mono ?_
  rintro e w' ⟨rfl, rfl⟩
  go_wp2_with fail
  go_ret
  exact ⟨rfl, rfl⟩
/-- After at a first position whose line and column are 0 -/
theorem after_zero (x u v : Int) (w : World) :
    Calls Try.prog 15 #[.agg #[.int .u32 x, .int .u32 0], .agg #[.int .u32 u, .int .u32 v]] w fun e w' => e = .returned (.bool false) ∧
      ((w.alloc (.cells #[.int .u32 x, .int .u32 0] 26)).alloc (.cells #[.int .u32 u, .int .u32 v] 26)).alloc (.cells #[.int .u32 x, .int .u32 0] 26) = w' := by
  go_enter Try.func15, Try.ntmps15
  go_wp2_with fail
  refine (valid_zero _ _).mono ?_
  rintro e w' ⟨rfl, rfl⟩
  go_wp2_with fail
  go_ret
  exact ⟨rfl, rfl⟩
set_option maxHeartbeats 2000000 in
/-- posAddCol at a valid position -/
theorem add_valid (x y n : Int) (w : World) (h0 : 0 ≤ x) (h1 : x ≤ 4294967284) (h2 : (y != 0) = true) (hy0 : 0 ≤ y) (hy : y ≤ 4294967295) (hn1 : -2199023255552 ≤ n) (hn2 : n ≤ 2199023255552) :
    Calls Try.prog 43 #[.agg #[.int .u32 x, .int .u32 y], .int .i64 n] w fun e w' => e = .returned (.agg #[.int .u32 (addOff x n), .int .u32 (addLC y n)]) ∧
      (((w.alloc (.cells #[.int .u32 (addOff x n), .int .u32 (addLC y n)] 26)).alloc (.cells #[.int .u32 (addOff x n), .int .u32 (addLC y n)] 26)).alloc (.cells #[.int .u32 x, .int .u32 y] 26)).alloc (.cells #[.int .u32 x, .int .u32 y] 26) = w' := by
  have hm : 0 ≤ y % 16384 := by omega
  have hm' : y % 16384 ≤ 16383 := by omega
  by_cases o1 : x + n < 0
  · by_cases c1 : y % 16384 = 0
    · have KO := Lib.hid (show addOff x n = 0 by unfold addOff; rw [if_pos o1])
      have KC := Lib.hid (show addLC y n = bits .or .u32 (bits .andNot .u32 y 16383) (y % 16384) by rw [join14 y (y % 16384) hy0 hy (by omega) (by omega)]; unfold addLC addCol; rw [if_pos c1, c1])
      have c1' : y % 16384 ≤ 0 := by omega
      clear c1
      go_enter Try.func43, Try.ntmps43
      go_wp2_with fail
      refine (valid_yes _ _ _ h1 h2).mono ?_
      rintro e w' ⟨rfl, rfl⟩
      go_wp2_with fail
      refine (col_any _ _ _ hy0 hy).mono ?_
      rintro e w' ⟨rfl, rfl⟩
      go_wp2_with fail
      rw [KO.out, KC.out]
      exact bodyPost_ret (v := .agg #[_, _]) (by simp [results, Try.results43, go_sem]) rfl ⟨rfl, rfl⟩
    · by_cases c2 : y % 16384 + n < 1
      · have KO := Lib.hid (show addOff x n = 0 by unfold addOff; rw [if_pos o1])
        have KC := Lib.hid (show addLC y n = bits .or .u32 (bits .andNot .u32 y 16383) (0) by rw [join14 y (0) hy0 hy (by omega) (by omega)]; unfold addLC addCol; rw [if_neg (by omega), if_pos (by omega)])
        have c1' : 0 < y % 16384 := by omega
        clear c1
        go_enter Try.func43, Try.ntmps43
        go_wp2_with fail
        refine (valid_yes _ _ _ h1 h2).mono ?_
        rintro e w' ⟨rfl, rfl⟩
        go_wp2_with fail
        refine (col_any _ _ _ hy0 hy).mono ?_
        rintro e w' ⟨rfl, rfl⟩
        go_wp2_with fail
        rw [KO.out, KC.out]
        exact bodyPost_ret (v := .agg #[_, _]) (by simp [results, Try.results43, go_sem]) rfl ⟨rfl, rfl⟩
      · by_cases c3 : 16383 < y % 16384 + n
        · exfalso; omega
        · have KO := Lib.hid (show addOff x n = 0 by unfold addOff; rw [if_pos o1])
          have KC := Lib.hid (show addLC y n = bits .or .u32 (bits .andNot .u32 y 16383) (y % 16384 + n) by rw [join14 y (y % 16384 + n) hy0 hy (by omega) (by omega)]; unfold addLC addCol; rw [if_neg (by omega), if_neg (by omega)])
          have c1' : 0 < y % 16384 := by omega
          clear c1
          go_enter Try.func43, Try.ntmps43
          go_wp2_with fail
          refine (valid_yes _ _ _ h1 h2).mono ?_
          rintro e w' ⟨rfl, rfl⟩
          go_wp2_with fail
          refine (col_any _ _ _ hy0 hy).mono ?_
          rintro e w' ⟨rfl, rfl⟩
          go_wp2_with fail
          rw [KO.out, KC.out]
          exact bodyPost_ret (v := .agg #[_, _]) (by simp [results, Try.results43, go_sem]) rfl ⟨rfl, rfl⟩
  · by_cases o2 : 4294967284 < x + n
    · by_cases c1 : y % 16384 = 0
      · have KO := Lib.hid (show addOff x n = 4294967284 by unfold addOff; rw [if_neg (by omega), if_pos o2])
        have KC := Lib.hid (show addLC y n = bits .or .u32 (bits .andNot .u32 y 16383) (y % 16384) by rw [join14 y (y % 16384) hy0 hy (by omega) (by omega)]; unfold addLC addCol; rw [if_pos c1, c1])
        have c1' : y % 16384 ≤ 0 := by omega
        clear c1
        go_enter Try.func43, Try.ntmps43
        go_wp2_with fail
        refine (valid_yes _ _ _ h1 h2).mono ?_
        rintro e w' ⟨rfl, rfl⟩
        go_wp2_with fail
        refine (col_any _ _ _ hy0 hy).mono ?_
        rintro e w' ⟨rfl, rfl⟩
        go_wp2_with fail
        rw [KO.out, KC.out]
        exact bodyPost_ret (v := .agg #[_, _]) (by simp [results, Try.results43, go_sem]) rfl ⟨rfl, rfl⟩
      · by_cases c2 : y % 16384 + n < 1
        · exfalso; omega
        · by_cases c3 : 16383 < y % 16384 + n
          · have KO := Lib.hid (show addOff x n = 4294967284 by unfold addOff; rw [if_neg (by omega), if_pos o2])
            have KC := Lib.hid (show addLC y n = bits .or .u32 (bits .andNot .u32 y 16383) (0) by rw [join14 y (0) hy0 hy (by omega) (by omega)]; unfold addLC addCol; rw [if_neg (by omega), if_pos (by omega)])
            have c1' : 0 < y % 16384 := by omega
            clear c1
            go_enter Try.func43, Try.ntmps43
            go_wp2_with fail
            refine (valid_yes _ _ _ h1 h2).mono ?_
            rintro e w' ⟨rfl, rfl⟩
            go_wp2_with fail
            refine (col_any _ _ _ hy0 hy).mono ?_
            rintro e w' ⟨rfl, rfl⟩
            go_wp2_with fail
            rw [KO.out, KC.out]
            exact bodyPost_ret (v := .agg #[_, _]) (by simp [results, Try.results43, go_sem]) rfl ⟨rfl, rfl⟩
          · have KO := Lib.hid (show addOff x n = 4294967284 by unfold addOff; rw [if_neg (by omega), if_pos o2])
            have KC := Lib.hid (show addLC y n = bits .or .u32 (bits .andNot .u32 y 16383) (y % 16384 + n) by rw [join14 y (y % 16384 + n) hy0 hy (by omega) (by omega)]; unfold addLC addCol; rw [if_neg (by omega), if_neg (by omega)])
            have c1' : 0 < y % 16384 := by omega
            clear c1
            go_enter Try.func43, Try.ntmps43
            go_wp2_with fail
            refine (valid_yes _ _ _ h1 h2).mono ?_
            rintro e w' ⟨rfl, rfl⟩
            go_wp2_with fail
            refine (col_any _ _ _ hy0 hy).mono ?_
            rintro e w' ⟨rfl, rfl⟩
            go_wp2_with fail
            rw [KO.out, KC.out]
            exact bodyPost_ret (v := .agg #[_, _]) (by simp [results, Try.results43, go_sem]) rfl ⟨rfl, rfl⟩
    · by_cases c1 : y % 16384 = 0
      · have KO := Lib.hid (show addOff x n = x + n by unfold addOff; rw [if_neg (by omega), if_neg (by omega)])
        have KC := Lib.hid (show addLC y n = bits .or .u32 (bits .andNot .u32 y 16383) (y % 16384) by rw [join14 y (y % 16384) hy0 hy (by omega) (by omega)]; unfold addLC addCol; rw [if_pos c1, c1])
        have c1' : y % 16384 ≤ 0 := by omega
        clear c1
        go_enter Try.func43, Try.ntmps43
        go_wp2_with fail
        refine (valid_yes _ _ _ h1 h2).mono ?_
        rintro e w' ⟨rfl, rfl⟩
        go_wp2_with fail
        refine (col_any _ _ _ hy0 hy).mono ?_
        rintro e w' ⟨rfl, rfl⟩
        go_wp2_with fail
        rw [KO.out, KC.out]
        exact bodyPost_ret (v := .agg #[_, _]) (by simp [results, Try.results43, go_sem]) rfl ⟨rfl, rfl⟩
      · by_cases c2 : y % 16384 + n < 1
        · have KO := Lib.hid (show addOff x n = x + n by unfold addOff; rw [if_neg (by omega), if_neg (by omega)])
          have KC := Lib.hid (show addLC y n = bits .or .u32 (bits .andNot .u32 y 16383) (0) by rw [join14 y (0) hy0 hy (by omega) (by omega)]; unfold addLC addCol; rw [if_neg (by omega), if_pos (by omega)])
          have c1' : 0 < y % 16384 := by omega
          clear c1
          go_enter Try.func43, Try.ntmps43
          go_wp2_with fail
          refine (valid_yes _ _ _ h1 h2).mono ?_
          rintro e w' ⟨rfl, rfl⟩
          go_wp2_with fail
          refine (col_any _ _ _ hy0 hy).mono ?_
          rintro e w' ⟨rfl, rfl⟩
          go_wp2_with fail
          rw [KO.out, KC.out]
          exact bodyPost_ret (v := .agg #[_, _]) (by simp [results, Try.results43, go_sem]) rfl ⟨rfl, rfl⟩
        · by_cases c3 : 16383 < y % 16384 + n
          · have KO := Lib.hid (show addOff x n = x + n by unfold addOff; rw [if_neg (by omega), if_neg (by omega)])
            have KC := Lib.hid (show addLC y n = bits .or .u32 (bits .andNot .u32 y 16383) (0) by rw [join14 y (0) hy0 hy (by omega) (by omega)]; unfold addLC addCol; rw [if_neg (by omega), if_pos (by omega)])
            have c1' : 0 < y % 16384 := by omega
            clear c1
            go_enter Try.func43, Try.ntmps43
            go_wp2_with fail
            refine (valid_yes _ _ _ h1 h2).mono ?_
            rintro e w' ⟨rfl, rfl⟩
            go_wp2_with fail
            refine (col_any _ _ _ hy0 hy).mono ?_
            rintro e w' ⟨rfl, rfl⟩
            go_wp2_with fail
            rw [KO.out, KC.out]
            exact bodyPost_ret (v := .agg #[_, _]) (by simp [results, Try.results43, go_sem]) rfl ⟨rfl, rfl⟩
          · have KO := Lib.hid (show addOff x n = x + n by unfold addOff; rw [if_neg (by omega), if_neg (by omega)])
            have KC := Lib.hid (show addLC y n = bits .or .u32 (bits .andNot .u32 y 16383) (y % 16384 + n) by rw [join14 y (y % 16384 + n) hy0 hy (by omega) (by omega)]; unfold addLC addCol; rw [if_neg (by omega), if_neg (by omega)])
            have c1' : 0 < y % 16384 := by omega
            clear c1
            go_enter Try.func43, Try.ntmps43
            go_wp2_with fail
            refine (valid_yes _ _ _ h1 h2).mono ?_
            rintro e w' ⟨rfl, rfl⟩
            go_wp2_with fail
            refine (col_any _ _ _ hy0 hy).mono ?_
            rintro e w' ⟨rfl, rfl⟩
            go_wp2_with fail
            rw [KO.out, KC.out]
            exact bodyPost_ret (v := .agg #[_, _]) (by simp [results, Try.results43, go_sem]) rfl ⟨rfl, rfl⟩
end Go.Proofs.Ytngbfadnmeohnaa.posn
