/-
  Contracts of slices.BinarySearch at target 0 over a row of ints that are not negative. Conditions: as each contract states.
-/
import Derived.Test.YtljbaachfbcbbaaMk
namespace Go.Proofs.Ytljbaachfbcbbaa.vars
open Go.ChangeShapes Go.WideShapes Go.ChangeAt Go.RowKit
open Go.Proofs.Ytljbaachfbcbbaa.own
set_option linter.unusedVariables false

theorem isNaN28 (x : Int) (w : World) : Calls Try.prog 28 #[.int .i64 x] w fun e w' => e = .returned (.bool false) ∧ w = w' := by
  have e1 : (x != x) = false := by simp
  go_enter Try.func28, Try.ntmps28
  go_wp2
  go_ret
  exact ⟨rfl, rfl⟩
theorem isNaN29 (x : Int) (w : World) : Calls Try.prog 29 #[.int .i64 x] w fun e w' => e = .returned (.bool false) ∧ w = w' := by
  have e1 : (x != x) = false := by simp
  go_enter Try.func29, Try.ntmps29
  go_wp2
  go_ret
  exact ⟨rfl, rfl⟩
theorem less_no (x : Int) (w : World) (h : 0 ≤ x) : Calls Try.prog 27 #[.int .i64 x, .int .i64 0] w fun e w' => e = .returned (.bool false) ∧ w = w' := by
  have hd : decide (x < 0) = false := by simp; omega
  go_enter Try.func27, Try.ntmps27
  go_wp2_with (go_at_call 29; refine (isNaN29 _ _).mono ?_; rintro e w' ⟨rfl, rfl⟩)
  go_ret
  exact ⟨rfl, rfl⟩
theorem bin_zero (a : Addr) (c : Nat) (w : World) : Calls Try.prog 25 #[.slice (some a) 0 c, .int .i64 0] w fun e w' => e = .returned (.tuple #[.int .i64 0, .bool false]) ∧ Below w.heap.size w w' := by
  go_enter Try.func25, Try.ntmps25
  go_wp2
  refine wp_loop_rounds 1 ?_
  rw [rounds_succ]
  go_wp2
  go_ret2
  exact ⟨rfl, Below.refl _ _⟩
/-- at target 0 over numbers that are not negative the search ends at place 0 -/
theorem bin_row (b off n c : Nat) (f : Nat → Int) (w : World) (hn : 0 < n) (hm : n ≤ 131072) (h : ∀ i, i < n → w.cell? ⟨b, off + i, none⟩ = some (.int .i64 (f i)) ∧ 0 ≤ f i ∧ f i ≤ 1048576) (r : Bool) (hr : r = (f 0 == 0)) :
    Calls Try.prog 25 #[.slice (some ⟨b, off, none⟩) n c, .int .i64 0] w fun e w' => e = .returned (.tuple #[.int .i64 0, .bool r]) ∧ Below w.heap.size w w' := by
  obtain ⟨c0, p0, q0⟩ := h 0 hn
  have c0' : w.cell? ⟨b, off, none⟩ = some (.int .i64 (f 0)) := c0
  have H := Lib.hid h
  have HR := Lib.hid hr
  clear h c0 hr
  have i1 : (0 : Int) < (n : Int) := by omega
  have i2 : decide ((0 : Int) < (n : Int)) = true := by simp; omega
  go_enter Try.func25, Try.ntmps25
  go_wp2
  go_loop [7, 8] (fun i j => i = .int .i64 0 ∧ ∃ k : Nat, k ≤ n ∧ j = .int .i64 k) (fun _ j => (intOf j).toNat)
  case atStart => exact ⟨rfl, n, by omega, rfl⟩
  case round =>
    obtain ⟨rfl, k, hk, rfl⟩ := hrel
    by_cases hlt : 0 < k
    · obtain ⟨c1, p1, q1⟩ := H.out (k / 2) (by omega)
      go_wp2_with fail
      refine (less_no _ _ p1).mono ?_
      rintro e w' ⟨rfl, rfl⟩
      go_wp2_with fail
      go_round
      case rel => exact ⟨rfl, k / 2, by omega, by go_num⟩
      case measure => simp [intOf]; omega
    · obtain rfl : k = 0 := by omega
      cases r
      · have e0 : (f 0 == 0) = false := HR.out.symm
        go_wp2
        go_ret2
        exact ⟨rfl, Below.refl _ _⟩
      · have e0 : (f 0 == 0) = true := HR.out.symm
        go_wp2
        go_ret2
        exact ⟨rfl, Below.refl _ _⟩
end Go.Proofs.Ytljbaachfbcbbaa.vars
