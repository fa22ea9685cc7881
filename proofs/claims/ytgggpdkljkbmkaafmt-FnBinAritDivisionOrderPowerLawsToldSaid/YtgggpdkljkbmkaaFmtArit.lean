/-
  Contracts of intPow and of binArit at the operators that the law uses. Conditions: as each contract states. fmt.errorf is asked nothing at its formats (no operand, no verb).
-/
import Derived.Test.YtgggpdkljkbmkaaFmtPlain
import Derived.Test.YtgggpdkljkbmkaaFmtChecked
import Derived.Handy
import Derived.Below
import Derived.Lib.Hide
import Derived.Stop.CallBack
import Derived.Stop.IfaceNil
import Derived.Stop.FmtTextLaws
namespace Go.Proofs.YtgggpdkljkbmkaaFmt.arit
open Go.RowKit Go.Extern.Stop Go.Stop Go.Extern
open Go.Proofs.YtgggpdkljkbmkaaFmt.plain
set_option linter.unusedVariables false
theorem ret_int {k : IntKind} {a b : Int} (h : a = b) : Ending.returned (.int k a) = .returned (.int k b) := by rw [h]
theorem ret_bool {a b : Bool} (h : a = b) : Ending.returned (.bool a) = .returned (.bool b) := by rw [h]
theorem wf_i64 {x : Int} (h : (Lit.int .i64 x).wf = true) : -9223372036854775808 ≤ x ∧ x ≤ 9223372036854775807 := by
  simpa [Lit.wf, IntKind.min, IntKind.max, IntKind.signed, IntKind.bits] using h
/-- what holds at the head of intPow's loop -/
def powRel (A B a b p : Int) : Prop := 0 ≤ b ∧ b ≤ 9223372036854775807 ∧ wrap64 (p * a ^ b.toNat) = powW A B ∧ -9223372036854775808 ≤ p ∧ p ≤ 9223372036854775807
set_option maxHeartbeats 400000 in
theorem intPow_any (a b : Int) (w : World) (h0 : 0 ≤ b) (h1 : b ≤ 9223372036854775807) :
    Calls Tryf.prog 8 #[.int .i64 a, .int .i64 b] w fun e w' => e = .returned (.int .i64 (powW a b)) ∧ w = w' := by
  go_enter Tryf.func8, Tryf.ntmps8
  go_wp2
  go_loop [0, 1, 5] (fun x y z => ∃ a' b' p' : Int, x = .int .i64 a' ∧ y = .int .i64 b' ∧ z = .int .i64 p' ∧ powRel a b a' b' p') (fun _ y _ => (intOf y).toNat)
  case atStart => exact ⟨a, b, 1, rfl, rfl, rfl, h0, h1, by rw [Int.one_mul]; rfl, by omega, by omega⟩
  case round =>
    obtain ⟨a', b', p', rfl, rfl, rfl, hr⟩ := hrel
    have HR := Lib.hid hr
    obtain ⟨r1, r2, r3, r4, r5⟩ := hr
    clear r3 r4 r5
    by_cases hz : 0 < b'
    · have HA := Lib.hid (and_one b' r1 r2)
      by_cases ho : b' % 2 = 0
      · have ht : (bits .and .i64 b' 1 != 0) = false := by rw [HA.out, ho]; rfl
        have HO := Lib.hid ho
        clear ho
        go_wp2
        go_round
        case rel => exact ⟨wrap64 (a' * a'), b' / 2, p', rfl, rfl, rfl, by omega, by omega, (step_even p' a' b' r1 HO.out).trans HR.out.2.2.1, HR.out.2.2.2⟩
        case measure => simp [intOf]; omega
      · have ho' : b' % 2 = 1 := by omega
        have ht : (bits .and .i64 b' 1 != 0) = true := by rw [HA.out, ho']; rfl
        have HO := Lib.hid ho'
        clear ho ho'
        go_wp2
        go_round
        case rel => exact ⟨wrap64 (a' * a'), b' / 2, wrap64 (p' * a'), rfl, rfl, rfl, by omega, by omega, (step_odd p' a' b' r1 HO.out).trans HR.out.2.2.1, wrap64_bd _⟩
        case measure => simp [intOf]; omega
    · have hb : b' = 0 := by omega
      subst hb
      go_wp2
      go_ret
      exact ⟨ret_int (by have h := HR.out; have e := h.2.2.1; simp at e; rw [← e]; exact (wrap64_id h.2.2.2.1 h.2.2.2.2).symm), rfl⟩

theorem callE (args : Array Value) (w : World) : (callFunc 10 args).run Tryf.prog w = (FmtCalls.errorf #[9, 35] #[23] args).run Tryf.prog w :=
  run_callFunc_next Tryf.func10 (by kernel_rfl) (by kernel_rfl) (by kernel_rfl) args w
theorem callDz (w : World) : (callFunc 10 #[.string ⟨#[100, 105, 118, 105, 115, 105, 111, 110, 32, 98, 121, 32, 122, 101, 114, 111]⟩, .slice none 0 0]).run Tryf.prog w = .ok (.value .nilIface) w := by
  rw [callE]; kernel_rfl
theorem callEl (w : World) : (callFunc 10 #[.string ⟨#[101, 120, 112, 111, 110, 101, 110, 116, 32, 108, 101, 115, 115, 32, 116, 104, 97, 110, 32, 48]⟩, .slice none 0 0]).run Tryf.prog w = .ok (.value .nilIface) w := by
  rw [callE]; kernel_rfl
/-- it is refused: an error that is not nil -/
def Refused (w : World) (e : Ending) (w' : World) : Prop := ∃ t p, e = .returned (.tuple #[.int .i64 0, .iface t p]) ∧ Below w.heap.size w w'
set_option maxHeartbeats 1000000 in
set_option maxRecDepth 100000 in
theorem lss_any (x y : Int) (b : Bool) (w : World) (hb : decide (x < y) = b) : Calls Tryf.prog 4 #[.int .u32 65, .int .i64 x, .int .i64 y] w fun e w' => e = .returned (.tuple #[.int .i64 (bif b then 1 else 0), .nilIface]) ∧ w = w' := by
  cases b <;> (go_enter Tryf.func4, Tryf.ntmps4; go_wp2; go_ret2; exact ⟨rfl, rfl⟩)
set_option maxHeartbeats 1000000 in
set_option maxRecDepth 100000 in
theorem eql_any (x y : Int) (b : Bool) (w : World) (hb : (x == y) = b) : Calls Tryf.prog 4 #[.int .u32 45, .int .i64 x, .int .i64 y] w fun e w' => e = .returned (.tuple #[.int .i64 (bif b then 1 else 0), .nilIface]) ∧ w = w' := by
  cases b <;> (go_enter Tryf.func4, Tryf.ntmps4; go_wp2; go_ret2; exact ⟨rfl, rfl⟩)
set_option maxHeartbeats 1000000 in
set_option maxRecDepth 100000 in
theorem gtr_any (x y : Int) (b : Bool) (w : World) (hb : decide (y < x) = b) : Calls Tryf.prog 4 #[.int .u32 63, .int .i64 x, .int .i64 y] w fun e w' => e = .returned (.tuple #[.int .i64 (bif b then 1 else 0), .nilIface]) ∧ w = w' := by
  cases b <;> (go_enter Tryf.func4, Tryf.ntmps4; go_wp2; go_ret2; exact ⟨rfl, rfl⟩)
set_option maxHeartbeats 1000000 in
set_option maxRecDepth 100000 in
theorem leq_any (x y : Int) (b : Bool) (w : World) (hb : decide (x ≤ y) = b) : Calls Tryf.prog 4 #[.int .u32 47, .int .i64 x, .int .i64 y] w fun e w' => e = .returned (.tuple #[.int .i64 (bif b then 1 else 0), .nilIface]) ∧ w = w' := by
  cases b <;> (go_enter Tryf.func4, Tryf.ntmps4; go_wp2; go_ret2; exact ⟨rfl, rfl⟩)
set_option maxHeartbeats 1000000 in
set_option maxRecDepth 100000 in
theorem geq_any (x y : Int) (b : Bool) (w : World) (hb : decide (y ≤ x) = b) : Calls Tryf.prog 4 #[.int .u32 48, .int .i64 x, .int .i64 y] w fun e w' => e = .returned (.tuple #[.int .i64 (bif b then 1 else 0), .nilIface]) ∧ w = w' := by
  cases b <;> (go_enter Tryf.func4, Tryf.ntmps4; go_wp2; go_ret2; exact ⟨rfl, rfl⟩)
set_option maxHeartbeats 1000000 in
set_option maxRecDepth 100000 in
theorem neq_any (x y : Int) (b : Bool) (w : World) (hb : (x != y) = b) : Calls Tryf.prog 4 #[.int .u32 46, .int .i64 x, .int .i64 y] w fun e w' => e = .returned (.tuple #[.int .i64 (bif b then 1 else 0), .nilIface]) ∧ w = w' := by
  cases b <;> (go_enter Tryf.func4, Tryf.ntmps4; go_wp2; go_ret2; exact ⟨rfl, rfl⟩)

set_option maxHeartbeats 1000000 in
set_option maxRecDepth 100000 in
theorem add_any (x y : Int) (w : World) : Calls Tryf.prog 4 #[.int .u32 81, .int .i64 x, .int .i64 y] w fun e w' => e = .returned (.tuple #[.int .i64 (wrap64 (x + y)), .nilIface]) ∧ w = w' := by
  go_enter Tryf.func4, Tryf.ntmps4
  go_wp2
  go_ret2
  exact ⟨rfl, rfl⟩
set_option maxHeartbeats 1000000 in
set_option maxRecDepth 100000 in
theorem sub_any (x y : Int) (w : World) : Calls Tryf.prog 4 #[.int .u32 83, .int .i64 x, .int .i64 y] w fun e w' => e = .returned (.tuple #[.int .i64 (wrap64 (x - y)), .nilIface]) ∧ w = w' := by
  go_enter Tryf.func4, Tryf.ntmps4
  go_wp2
  go_ret2
  exact ⟨rfl, rfl⟩
set_option maxHeartbeats 1000000 in
set_option maxRecDepth 100000 in
theorem quo_any (x y : Int) (w : World) (hy : (y == 0) = false) : Calls Tryf.prog 4 #[.int .u32 101, .int .i64 x, .int .i64 y] w fun e w' => e = .returned (.tuple #[.int .i64 (wrap64 (x.tdiv y)), .nilIface]) ∧ w = w' := by
  have hy' : y ≠ 0 := by simpa using hy
  go_enter Tryf.func4, Tryf.ntmps4
  go_wp2
  go_ret2
  exact ⟨rfl, rfl⟩
set_option maxHeartbeats 1000000 in
set_option maxRecDepth 100000 in
theorem rem_any (x y : Int) (w : World) (hy : (y == 0) = false) : Calls Tryf.prog 4 #[.int .u32 89, .int .i64 x, .int .i64 y] w fun e w' => e = .returned (.tuple #[.int .i64 (x.tmod y), .nilIface]) ∧ w = w' := by
  have hy' : y ≠ 0 := by simpa using hy
  go_enter Tryf.func4, Tryf.ntmps4
  go_wp2
  go_ret2
  exact ⟨rfl, rfl⟩
set_option maxHeartbeats 1000000 in
set_option maxRecDepth 100000 in
theorem quo_zero (x : Int) (w : World) : Calls Tryf.prog 4 #[.int .u32 101, .int .i64 x, .int .i64 0] w (Refused w) := by
  have hE := callDz
  go_enter Tryf.func4, Tryf.ntmps4
  go_wp2
  go_ret2
  exact ⟨_, _, rfl, (Below.refl _ _).alloc (Nat.le_refl _) _⟩
set_option maxHeartbeats 1000000 in
set_option maxRecDepth 100000 in
theorem rem_zero (x : Int) (w : World) : Calls Tryf.prog 4 #[.int .u32 89, .int .i64 x, .int .i64 0] w (Refused w) := by
  have hE := callDz
  go_enter Tryf.func4, Tryf.ntmps4
  go_wp2
  go_ret2
  exact ⟨_, _, rfl, (Below.refl _ _).alloc (Nat.le_refl _) _⟩
set_option maxHeartbeats 1000000 in
set_option maxRecDepth 100000 in
theorem pow_neg (x y : Int) (w : World) (hy : y < 0) : Calls Tryf.prog 4 #[.int .u32 44, .int .i64 x, .int .i64 y] w (Refused w) := by
  have hE := callEl
  go_enter Tryf.func4, Tryf.ntmps4
  go_wp2
  go_ret2
  exact ⟨_, _, rfl, (Below.refl _ _).alloc (Nat.le_refl _) _⟩
set_option maxHeartbeats 1000000 in
set_option maxRecDepth 100000 in
theorem pow_any (x y : Int) (w : World) (h0 : 0 ≤ y) (h1 : y ≤ 9223372036854775807) : Calls Tryf.prog 4 #[.int .u32 44, .int .i64 x, .int .i64 y] w fun e w' => e = .returned (.tuple #[.int .i64 (powW x y), .nilIface]) ∧ w = w' := by
  have hd : ¬ y < 0 := by omega
  go_enter Tryf.func4, Tryf.ntmps4
  go_wp2_with (first | (go_at_call 8; refine (intPow_any _ _ _ h0 h1).mono ?_; rintro e w' ⟨rfl, rfl⟩) | (go_at_call 6; go_in))
  go_ret2
  exact ⟨rfl, rfl⟩
theorem abs_neg (m : Int) (w : World) (h : m < 0) (h2 : -9223372036854775808 ≤ m) : Calls Tryf.prog 5 #[.int .i64 m] w fun e w' => e = .returned (.int .u64 (-m)) ∧ w = w' := by
  go_enter Tryf.func5, Tryf.ntmps5
  go_wp2
  go_ret
  exact ⟨ret_int (by rw [IntKind.wrap_u64, IntKind.wrap_u64]; omega), rfl⟩
theorem abs_pos (m : Int) (w : World) (h : 0 ≤ m) (h2 : m ≤ 9223372036854775807) : Calls Tryf.prog 5 #[.int .i64 m] w fun e w' => e = .returned (.int .u64 m) ∧ w = w' := by
  go_enter Tryf.func5, Tryf.ntmps5
  go_wp2
  go_ret
  exact ⟨ret_int (by omega), rfl⟩
theorem abs_any (m : Int) (w : World) (h1 : -9223372036854775808 ≤ m) (h2 : m ≤ 9223372036854775807) : Calls Tryf.prog 5 #[.int .i64 m] w fun e w' => e = .returned (.int .u64 (m.natAbs : Int)) ∧ w = w' := by
  by_cases h : m < 0
  · exact (abs_neg m w h h1).mono fun e w' k => ⟨k.1.trans (ret_int (by omega)), k.2⟩
  · exact (abs_pos m w (by omega) h2).mono fun e w' k => ⟨k.1.trans (ret_int (by omega)), k.2⟩
/-! ### plain: division -/
theorem div_facts (x y : Int) (hx1 : -9223372036854775808 ≤ x) (hx2 : x ≤ 9223372036854775807) (hy : y ≠ 0) :
    wrap64 (wrap64 (wrap64 (x.tdiv y) * y) + x.tmod y) = x ∧ (x.tmod y).natAbs < y.natAbs ∧ (x < 0 → x.tmod y ≤ 0) ∧ (0 ≤ x → 0 ≤ x.tmod y) := by
  have e := Int.tmod_add_mul_tdiv x y
  refine ⟨?_, ?_, ?_, ?_⟩
  · have h1 : wrap64 (wrap64 (wrap64 (x.tdiv y) * y) + x.tmod y) = wrap64 x := by
      apply wrap64_eq
      have h2 : wrap64 (wrap64 (x.tdiv y) * y) % M = (x.tdiv y * y) % M := by rw [wrap64_mod]; exact mul_cong (wrap64_mod _) rfl
      rw [Int.add_emod, h2, ← Int.add_emod]
      congr 1
      rw [Int.mul_comm]; omega
    rw [h1]; exact wrap64_id hx1 hx2
  · rw [Int.natAbs_tmod]; exact Nat.mod_lt _ (by omega)
  · intro h
    have h2 : 0 ≤ (-x).tmod y := Int.tmod_nonneg y (by omega)
    rw [Int.neg_tmod] at h2; omega
  · intro h; exact Int.tmod_nonneg y h
theorem sub_add (x y : Int) (hx1 : -9223372036854775808 ≤ x) (hx2 : x ≤ 9223372036854775807) : wrap64 (wrap64 (x + y) - y) = x := by
  unfold wrap64; omega
end Go.Proofs.YtgggpdkljkbmkaaFmt.arit
