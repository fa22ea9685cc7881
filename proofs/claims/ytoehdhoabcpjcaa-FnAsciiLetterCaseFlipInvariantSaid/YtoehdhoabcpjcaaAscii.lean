/-
  What asciiLetter[rune] answers, for every rune: a fixed Bool function of the rune; nothing in memory changes. No conditions.
-/
import Derived.Test.YtoehdhoabcpjcaaRows
import Derived.WalkKit
import Derived.ProofKit
import Derived.OpenShut
import Derived.Lib.Hide
namespace Go.Proofs.Ytoehdhoabcpjcaa.ascii
open Go.ChangeShapes Go.WideShapes Go.ChangeAt Go.RowKit

theorem ret_bool {a b : Bool} (h : a = b) : Ending.returned (.bool a) = .returned (.bool b) := by rw [h]

def letterB (r : Int) : Bool := (decide (97 ≤ r) && decide (r ≤ 122)) || (decide (65 ≤ r) && decide (r ≤ 90))

theorem letter_any (r : Int) (w : World) :
    Calls Try.prog 12 #[.int .i32 r] w fun e w' => e = .returned (.bool (letterB r)) ∧ w = w' := by
  by_cases h1 : 97 ≤ r
  · by_cases h2 : r ≤ 122
    · have HB := Lib.hid (show letterB r = true by simp [letterB]; omega)
      go_enter Try.func12, Try.ntmps12
      go_wp2
      go_ret
      exact ⟨ret_bool (by first | exact HB.out.symm | (rw [HB.out]; simp; omega)), rfl⟩
    · have HB := Lib.hid (show letterB r = false by simp [letterB]; omega)
      go_enter Try.func12, Try.ntmps12
      go_wp2
      go_ret
      exact ⟨ret_bool (by first | exact HB.out.symm | (rw [HB.out]; simp; omega)), rfl⟩
  · by_cases h3 : 65 ≤ r
    · by_cases h4 : r ≤ 90
      · have HB := Lib.hid (show letterB r = true by simp [letterB]; omega)
        go_enter Try.func12, Try.ntmps12
        go_wp2
        go_ret
        exact ⟨ret_bool (by first | exact HB.out.symm | (rw [HB.out]; simp; omega)), rfl⟩
      · have HB := Lib.hid (show letterB r = false by simp [letterB]; omega)
        go_enter Try.func12, Try.ntmps12
        go_wp2
        go_ret
        exact ⟨ret_bool (by first | exact HB.out.symm | (rw [HB.out]; simp; omega)), rfl⟩
    · have HB := Lib.hid (show letterB r = false by simp [letterB]; omega)
      go_enter Try.func12, Try.ntmps12
      go_wp2
      go_ret
      exact ⟨ret_bool (by first | exact HB.out.symm | (rw [HB.out]; simp; omega)), rfl⟩

/-! The plain law: flipping bit 5 keeps letters and non-letters. -/
theorem wrap_back (x : BitVec 32) : IntKind.i32.wrap (x.toNat : Int) = x.toInt := by
  rw [BitVec.toInt_eq_toNat_cond]
  have := x.isLt
  rw [IntKind.wrap_i32]
  omega

theorem xor32 (a : Int) : bits .xor .i32 a 32 = (BitVec.ofInt 32 a ^^^ 32#32).toInt := wrap_back _

theorem flip_flip (a : Int) (h1 : -2147483648 ≤ a) (h2 : a ≤ 2147483647) : bits .xor .i32 (bits .xor .i32 a 32) 32 = a := by
  rw [xor32, xor32, BitVec.ofInt_toInt, BitVec.xor_assoc]
  rw [BitVec.xor_self, BitVec.xor_zero, BitVec.toInt_ofInt]
  rw [Int.bmod_eq_of_le] <;> omega

theorem flip_yes (n : Nat) (h : n < 128) (hl : letterB (n : Int) = true) : letterB (bits .xor .i32 (n : Int) 32) = true := by
  have key : ∀ m : Fin 128, letterB (m.val : Int) = true → letterB (bits .xor .i32 (m.val : Int) 32) = true := by decide +kernel
  exact key ⟨n, h⟩ hl

theorem letter_bound (a : Int) (h : letterB a = true) : 0 ≤ a ∧ a < 128 := by
  simp [letterB] at h; omega

theorem flip_yes' (a : Int) (hl : letterB a = true) : letterB (bits .xor .i32 a 32) = true := by
  have hb := letter_bound a hl
  obtain ⟨n, rfl⟩ := Int.eq_ofNat_of_zero_le hb.1
  exact flip_yes n (by omega) hl

theorem flip_letter (a : Int) (h1 : -2147483648 ≤ a) (h2 : a ≤ 2147483647) : letterB a = letterB (bits .xor .i32 a 32) := by
  cases h : letterB a with
  | true => exact (flip_yes' a h).symm
  | false =>
    cases h' : letterB (bits .xor .i32 a 32) with
    | false => rfl
    | true => have := flip_yes' _ h'; rw [flip_flip a h1 h2, h] at this; cases this
end Go.Proofs.Ytoehdhoabcpjcaa.ascii
