/-
  Contracts of math/bits.OnesCount32 and of LangVariant's count. No condition.
-/
import Derived.WalkKit
import Derived.Deep.QuietTactic
import Derived.BigQuiet
import Derived.Lib.BitFns
import Derived.Lib.Tables
import Derived.Lib.Hide
import Derived.IntWalk
import Derived.Test.YtjhnnfbnfgaheaaDoorChecked
namespace Go.Proofs.YtjhnnfbnfgaheaaDoor.bitsOf
open Go.RowKit
set_option linter.unusedVariables false
theorem fold_tab : (⟨(([0, 1, 1, 2, 1, 2, 2, 3, 1, 2, 2, 3, 2, 3, 3, 4, 1, 2, 2, 3, 2, 3, 3, 4, 2, 3, 3, 4, 3, 4, 4, 5, 1, 2, 2, 3, 2, 3, 3, 4, 2, 3, 3, 4, 3, 4, 4, 5, 2, 3, 3, 4, 3, 4, 4, 5, 3, 4, 4, 5, 4, 5, 5, 6].append [1, 2, 2, 3, 2, 3, 3, 4, 2, 3, 3, 4, 3, 4, 4, 5, 2, 3, 3, 4, 3, 4, 4, 5, 3, 4, 4, 5, 4, 5, 5, 6, 2, 3, 3, 4, 3, 4, 4, 5, 3, 4, 4, 5, 4, 5, 5, 6, 3, 4, 4, 5, 4, 5, 5, 6, 4, 5, 5, 6, 5, 6, 6, 7]).append ([1, 2, 2, 3, 2, 3, 3, 4, 2, 3, 3, 4, 3, 4, 4, 5, 2, 3, 3, 4, 3, 4, 4, 5, 3, 4, 4, 5, 4, 5, 5, 6, 2, 3, 3, 4, 3, 4, 4, 5, 3, 4, 4, 5, 4, 5, 5, 6, 3, 4, 4, 5, 4, 5, 5, 6, 4, 5, 5, 6, 5, 6, 6, 7].append [2, 3, 3, 4, 3, 4, 4, 5, 3, 4, 4, 5, 4, 5, 5, 6, 3, 4, 4, 5, 4, 5, 5, 6, 4, 5, 5, 6, 5, 6, 6, 7, 3, 4, 4, 5, 4, 5, 5, 6, 4, 5, 5, 6, 5, 6, 6, 7, 4, 5, 5, 6, 5, 6, 6, 7, 5, 6, 6, 7, 6, 7, 7, 8])).toArray⟩ : ByteArray) = Lib.pop8tab := by rfl
theorem and255 (y : Int) (h0 : 0 ≤ y) (h1 : y < 4294967296) : bits .and .u32 y 255 = y % 256 := by
  obtain ⟨n, rfl⟩ := Int.eq_ofNat_of_zero_le h0
  show IntKind.u32.wrap ((BitVec.ofInt 32 (n : Int) &&& BitVec.ofInt 32 255).toNat : Int) = _
  have h1 : (BitVec.ofInt 32 (n : Int)).toNat = n := by rw [BitVec.ofInt_natCast, BitVec.toNat_ofNat]; exact Nat.mod_eq_of_lt (by omega)
  have h3 : (BitVec.ofInt 32 255).toNat = 2 ^ 8 - 1 := rfl
  rw [BitVec.toNat_and, h1, h3, Nat.and_two_pow_sub_one_eq_mod, IntKind.wrap_u32]
  omega
/-! ### plain: how many of the first n bits are set -/
def cntUp (x : Nat) : Nat → Nat
  | 0 => 0
  | n + 1 => cntUp x n + (x.testBit n).toNat
theorem cntUp_le (x n : Nat) : cntUp x n ≤ n := by
  induction n with
  | zero => simp [cntUp]
  | succ n ih => simp only [cntUp]; have := Bool.toNat_le (x.testBit n); omega
theorem cntUp_congr {x y n : Nat} (h : ∀ i, i < n → x.testBit i = y.testBit i) : cntUp x n = cntUp y n := by
  induction n with
  | zero => rfl
  | succ n ih => simp only [cntUp]; rw [ih (fun i hi => h i (by omega)), h n (by omega)]
theorem cntUp_split (x k j : Nat) : cntUp x (k + j) = cntUp x k + cntUp (x / 2 ^ k) j := by
  induction j with
  | zero => rfl
  | succ j ih =>
    rw [← Nat.add_assoc]
    simp only [cntUp]
    rw [ih, Nat.testBit_div_two_pow, Nat.add_comm j k]; omega
theorem cntUp_byte (x : Nat) : cntUp (x % 256) 8 = cntUp x 8 := cntUp_congr fun i hi => by
  rw [show (256 : Nat) = 2 ^ 8 from rfl, Nat.testBit_mod_two_pow]; simp [hi]
theorem cntUp_or {x y z n : Nat} (h : ∀ i, i < n → z.testBit i = (x.testBit i || y.testBit i) ∧ (x.testBit i && y.testBit i) = false) : cntUp z n = cntUp x n + cntUp y n := by
  induction n with
  | zero => rfl
  | succ n ih =>
    simp only [cntUp]
    rw [ih (fun i hi => h i (by omega)), (h n (by omega)).1]
    have h2 := (h n (by omega)).2
    cases hx : x.testBit n <;> cases hy : y.testBit n <;> simp_all <;> omega
theorem cntUp_low {x y n : Nat} (k : Nat) (hk : k ≤ n) (h : ∀ i, i < n → x.testBit i = (y.testBit i && decide (i < k))) : cntUp x n = cntUp y k := by
  obtain ⟨j, rfl⟩ := Nat.exists_eq_add_of_le hk
  induction j with
  | zero => exact cntUp_congr fun i hi => by rw [h i hi]; simp; intro; omega
  | succ j ih =>
    rw [← Nat.add_assoc]
    simp only [cntUp]
    rw [ih (by omega) (fun i hi => h i (by omega)), h (k + j) (by omega)]; simp
theorem pop8_cnt : ∀ n : Fin 256, Lib.pop8 (n.val : Int) = (cntUp n.val 8 : Int) := by decide +kernel
theorem pop8_nat (b : Nat) (h : b < 256) : Lib.pop8 (b : Int) = (cntUp b 8 : Int) := pop8_cnt ⟨b, h⟩
theorem sum_bytes (x : Nat) (h : x < 4294967296) : (Lib.pop8 ((x : Int) / 16777216) + Lib.pop8 ((x : Int) / 65536 % 256) + Lib.pop8 ((x : Int) / 256 % 256) + Lib.pop8 ((x : Int) % 256)) % 256 = (cntUp x 32 : Int) := by
  have e1 : (x : Int) / 16777216 = ((x / 16777216 : Nat) : Int) := by omega
  have e2 : (x : Int) / 65536 % 256 = ((x / 65536 % 256 : Nat) : Int) := by omega
  have e3 : (x : Int) / 256 % 256 = ((x / 256 % 256 : Nat) : Int) := by omega
  have e4 : (x : Int) % 256 = ((x % 256 : Nat) : Int) := by omega
  rw [e1, e2, e3, e4, pop8_nat _ (by omega), pop8_nat _ (by omega), pop8_nat _ (by omega), pop8_nat _ (by omega), cntUp_byte, cntUp_byte, cntUp_byte]
  have s1 : cntUp x 16 = cntUp x 8 + cntUp (x / 256) 8 := cntUp_split x 8 8
  have s2 : cntUp x 24 = cntUp x 16 + cntUp (x / 65536) 8 := cntUp_split x 16 8
  have s3 : cntUp x 32 = cntUp x 24 + cntUp (x / 16777216) 8 := cntUp_split x 24 8
  have l := cntUp_le x 32
  omega
/-- the low 32 bits of an int -/
def lo (z : Int) : Nat := (z % 4294967296).toNat
theorem lo_lt (z : Int) : lo z < 4294967296 := by unfold lo; omega
theorem lo_bit (z : Int) (i : Nat) (hi : i < 32) : (lo z).testBit i = (BitVec.ofInt 64 z).toNat.testBit i := by
  have e : lo z = (BitVec.ofInt 64 z).toNat % 2 ^ 32 := by
    rw [BitVec.toNat_ofInt]; unfold lo
    show (z % 4294967296).toNat = (z % 18446744073709551616).toNat % 4294967296
    omega
  rw [e, Nat.testBit_mod_two_pow]; simp [hi]
theorem lo_wrap (n : Nat) (hn : n < 18446744073709551616) (i : Nat) (hi : i < 32) : (lo (IntKind.i64.wrap (n : Int))).testBit i = n.testBit i := by
  have e : lo (IntKind.i64.wrap (n : Int)) = n % 2 ^ 32 := by
    rw [IntKind.wrap_i64]; unfold lo
    show _ = n % 4294967296
    omega
  rw [e, Nat.testBit_mod_two_pow]; simp [hi]
theorem lo_or (a b : Int) (i : Nat) (hi : i < 32) : (lo (bits .or .i64 a b)).testBit i = ((lo a).testBit i || (lo b).testBit i) := by
  show (lo (IntKind.i64.wrap ((BitVec.ofInt 64 a ||| BitVec.ofInt 64 b).toNat : Int))).testBit i = _
  rw [lo_wrap _ (BitVec.isLt _) i hi, BitVec.toNat_or, Nat.testBit_or, lo_bit a i hi, lo_bit b i hi]
theorem lo_and (a b : Int) (i : Nat) (hi : i < 32) : (lo (bits .and .i64 a b)).testBit i = ((lo a).testBit i && (lo b).testBit i) := by
  show (lo (IntKind.i64.wrap ((BitVec.ofInt 64 a &&& BitVec.ofInt 64 b).toNat : Int))).testBit i = _
  rw [lo_wrap _ (BitVec.isLt _) i hi, BitVec.toNat_and, Nat.testBit_and, lo_bit a i hi, lo_bit b i hi]
theorem lo_andNot (a b : Int) (i : Nat) (hi : i < 32) : (lo (bits .andNot .i64 a b)).testBit i = ((lo a).testBit i && !(lo b).testBit i) := by
  show (lo (IntKind.i64.wrap ((BitVec.ofInt 64 a &&& ~~~BitVec.ofInt 64 b).toNat : Int))).testBit i = _
  rw [lo_wrap _ (BitVec.isLt _) i hi, lo_bit a i hi, lo_bit b i hi, BitVec.toNat_and, Nat.testBit_and]
  congr 1
  rw [BitVec.testBit_toNat, BitVec.testBit_toNat, BitVec.getLsbD_not]
  simp; omega
theorem cnt_adds (a b : Int) : cntUp (lo (bits .or .i64 a (bits .andNot .i64 b a))) 32 = cntUp (lo a) 32 + cntUp (lo (bits .andNot .i64 b a)) 32 :=
  cntUp_or fun i hi => by
    rw [lo_or _ _ i hi, lo_andNot _ _ i hi]
    cases (lo a).testBit i <;> cases (lo b).testBit i <;> simp
theorem low31 : ∀ i : Fin 32, (31 : Nat).testBit i.val = decide (i.val < 5) := by decide
theorem cnt_mask (a : Int) : cntUp (lo (bits .and .i64 a 31)) 32 = cntUp (lo a) 5 :=
  cntUp_low 5 (by omega) fun i hi => by
    rw [lo_and _ _ i hi]; congr 1; exact low31 ⟨i, hi⟩
theorem cnt_mask5 (a : Int) : cntUp (lo (bits .and .i64 a 31)) 5 = cntUp (lo a) 5 :=
  cntUp_congr fun i hi => by
    rw [lo_and _ _ i (by omega), show (lo 31).testBit i = decide (i < 5) from low31 ⟨i, by omega⟩]; simp [hi]
theorem and_pow (x k : Nat) : x &&& 2 ^ k = (x.testBit k).toNat * 2 ^ k := by
  apply Nat.eq_of_testBit_eq
  intro i
  rw [Nat.testBit_and, Nat.testBit_two_pow]
  by_cases h : k = i
  · subst h; cases hx : x.testBit k <;> simp
  · cases hx : x.testBit k <;> simp [h]
theorem bit_test (l : Int) (k : Nat) (hk : k < 5) (p : Int) (hp : p = ((2 ^ k : Nat) : Int)) : (!(bits .and .i64 l p == 0)) = (lo l).testBit k := by
  subst hp
  have hq : (2 : Nat) ^ k < 64 := Nat.lt_of_le_of_lt (Nat.pow_le_pow_right (by omega) (show k ≤ 4 by omega)) (by decide)
  rw [lo_bit l k (by omega)]
  show (!(IntKind.i64.wrap ((BitVec.ofInt 64 l &&& BitVec.ofInt 64 ((2 ^ k : Nat) : Int)).toNat : Int) == 0)) = _
  have h2 : (BitVec.ofInt 64 ((2 ^ k : Nat) : Int)).toNat = 2 ^ k := by rw [BitVec.ofInt_natCast, BitVec.toNat_ofNat]; exact Nat.mod_eq_of_lt (by omega)
  rw [BitVec.toNat_and, h2, and_pow]
  generalize (BitVec.ofInt 64 l).toNat.testBit k = b
  cases b
  · simp [IntKind.wrap_i64]
  · have hpos : 0 < (2 : Nat) ^ k := Nat.pow_pos (by omega)
    rw [IntKind.wrap_i64]
    simp only [Bool.toNat_true, Nat.one_mul, Bool.not_eq_true', beq_eq_false_iff_ne, ne_eq]
    omega
theorem upto_cnt (l : Int) : ((([1, 2, 4, 8, 16] : List Int).take 5).filter fun n => !(bits .and .i64 l n == 0)).length = cntUp (lo l) 5 := by
  have t0 := bit_test l 0 (by omega) 1 rfl
  have t1 := bit_test l 1 (by omega) 2 rfl
  have t2 := bit_test l 2 (by omega) 4 rfl
  have t3 := bit_test l 3 (by omega) 8 rfl
  have t4 := bit_test l 4 (by omega) 16 rfl
  show (([1, 2, 4, 8, 16] : List Int).filter fun n => !(bits .and .i64 l n == 0)).length = _
  simp only [cntUp, List.filter_cons, List.filter_nil, t0, t1, t2, t3, t4]
  cases (lo l).testBit 0 <;> cases (lo l).testBit 1 <;> cases (lo l).testBit 2 <;> cases (lo l).testBit 3 <;> cases (lo l).testBit 4 <;> rfl
/-! ### the walks -/
theorem below_drewN (w : World) (n : Nat) : Below w.heap.size w (w.drewN n) := ⟨rfl, rfl, rfl, Nat.le_refl _, fun _ _ => rfl⟩
set_option maxHeartbeats 2000000 in
theorem ones_any (x : Nat) (w : World) (h1 : x < 4294967296) :
    Calls Tryd.prog 11 #[.int .u32 x] w fun e w' => e = .returned (.int .i64 (cntUp x 32 : Nat)) ∧ Below w.heap.size w w' := by
  have hf := fold_tab
  have i1 : (0 : Int) ≤ (x : Int) / 16777216 := by omega
  have i2 : (x : Int) / 16777216 ≤ 255 := by omega
  have a1 := and255 ((x : Int) / 65536) (by omega) (by omega)
  have a2 := and255 ((x : Int) / 256) (by omega) (by omega)
  have a3 := and255 (x : Int) (by omega) (by omega)
  have HS := Lib.hid (sum_bytes x h1)
  go_enter Tryd.func11, Tryd.ntmps11
  go_wp2
  go_quiet (fail)
  clear a1 a2 a3 hf
  go_wp2
  go_ret
  refine ⟨?_, ?_⟩
  · show Ending.returned (.int .i64 _) = _
    rw [HS.out]
  · exact below_drewN w nq
theorem count_any (l : Int) (w : World) : Calls Tryd.prog 5 #[.int .i64 l] w fun e w' => e = .returned (.int .i64 (cntUp (lo l) 32 : Nat)) ∧ Below w.heap.size w w' := by
  have hl : l % 4294967296 = ((lo l : Nat) : Int) := by unfold lo; omega
  have HL := Lib.hid hl
  clear hl
  go_enter Tryd.func5, Tryd.ntmps5
  go_wp2_with (first | (go_at_call 11; fail) | (go_at_call 8; go_in))
  rw [HL.out]
  refine (ones_any (lo l) _ (lo_lt l)).mono ?_
  rintro e w' ⟨rfl, hb⟩
  go_wp2
  go_ret
  exact ⟨rfl, hb⟩
end Go.Proofs.YtjhnnfbnfgaheaaDoor.bitsOf
