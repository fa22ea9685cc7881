/-
  Plain facts on integers: powers modulo 2^64. No program in sight.
-/
import Derived.WalkKit
namespace Go.Proofs.YtgggpdkljkbmkaaFmt.plain
open Go.RowKit

/-! ### powers modulo 2^64 -/
def M : Int := 18446744073709551616
theorem wrap64_mod (x : Int) : wrap64 x % M = x % M := by unfold wrap64 M; omega
theorem wrap64_eq {x y : Int} (h : x % M = y % M) : wrap64 x = wrap64 y := by unfold wrap64; unfold M at h; omega
theorem mod_wrap {x y : Int} (h : wrap64 x = wrap64 y) : x % M = y % M := by rw [← wrap64_mod x, h, wrap64_mod]
theorem mul_cong {a b c d : Int} (h1 : a % M = b % M) (h2 : c % M = d % M) : (a * c) % M = (b * d) % M := by
  rw [Int.mul_emod, h1, h2, ← Int.mul_emod]
theorem pow_cong {a b : Int} (h : a % M = b % M) (n : Nat) : (a ^ n) % M = (b ^ n) % M := by
  induction n with
  | zero => rw [Int.pow_zero, Int.pow_zero]
  | succ n ih => rw [Int.pow_succ, Int.pow_succ]; exact mul_cong ih h
def powW (a b : Int) : Int := wrap64 (a ^ b.toNat)
theorem pow_sq (a : Int) (n : Nat) : (a * a) ^ n = a ^ (2 * n) := by
  rw [Nat.two_mul, Int.pow_add, Int.mul_pow]
/-- an even step -/
theorem step_even (p a b : Int) (hb : 0 ≤ b) (he : b % 2 = 0) : wrap64 (p * wrap64 (a * a) ^ (b / 2).toNat) = wrap64 (p * a ^ b.toNat) := by
  apply wrap64_eq
  apply mul_cong rfl
  rw [pow_cong (wrap64_mod (a * a)), pow_sq]
  congr 2; omega
/-- an odd step -/
theorem step_odd (p a b : Int) (hb : 0 ≤ b) (he : b % 2 = 1) : wrap64 (wrap64 (p * a) * wrap64 (a * a) ^ (b / 2).toNat) = wrap64 (p * a ^ b.toNat) := by
  apply wrap64_eq
  have e : b.toNat = 2 * (b / 2).toNat + 1 := by omega
  rw [mul_cong (wrap64_mod (p * a)) (pow_cong (wrap64_mod (a * a)) (b / 2).toNat), pow_sq, e, Int.pow_succ, Int.mul_assoc, Int.mul_comm a]
theorem powW_zero (a : Int) : powW a 0 = 1 := by simp [powW, wrap64]
theorem powW_add (a b c : Int) (hb : 0 ≤ b) (hc : 0 ≤ c) : powW a (b + c) = wrap64 (powW a b * powW a c) := by
  apply wrap64_eq
  rw [Int.toNat_add hb hc, Int.pow_add]
  exact (mul_cong (wrap64_mod _) (wrap64_mod _)).symm
theorem wrap64_bd (x : Int) : -9223372036854775808 ≤ wrap64 x ∧ wrap64 x ≤ 9223372036854775807 := by unfold wrap64; omega
theorem powW_bd (a b : Int) : -9223372036854775808 ≤ powW a b ∧ powW a b ≤ 9223372036854775807 := wrap64_bd _
theorem wrap64_id {x : Int} (h1 : -9223372036854775808 ≤ x) (h2 : x ≤ 9223372036854775807) : wrap64 x = x := by unfold wrap64; omega
theorem and_one (b : Int) (hb : 0 ≤ b) (h2 : b ≤ 9223372036854775807) : bits .and .i64 b 1 = b % 2 := by
  obtain ⟨n, rfl⟩ := Int.eq_ofNat_of_zero_le hb
  show IntKind.i64.wrap ((BitVec.ofInt 64 (n : Int) &&& BitVec.ofInt 64 1).toNat : Int) = _
  have h1 : (BitVec.ofInt 64 (n : Int)).toNat = n := by rw [BitVec.ofInt_natCast, BitVec.toNat_ofNat]; exact Nat.mod_eq_of_lt (by omega)
  have h3 : (BitVec.ofInt 64 1).toNat = 1 := rfl
  rw [BitVec.toNat_and, h1, h3, Nat.and_one_is_mod, IntKind.wrap_i64]
  omega
end Go.Proofs.YtgggpdkljkbmkaaFmt.plain
