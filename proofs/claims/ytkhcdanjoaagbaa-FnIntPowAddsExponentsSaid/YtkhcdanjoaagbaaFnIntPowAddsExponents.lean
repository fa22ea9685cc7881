/-
  For all ints a, b and c, FnIntPowAddsExponents(a, b, c) returns true. No conditions.
  The frame round the walk was written by the kit's proof-skeleton.
-/
import Derived.Test.YtkhcdanjoaagbaaRows
import Derived.WalkKit
import Derived.ProofKit
import Derived.OpenShut
import Derived.Test.YtkhcdanjoaagbaaPlain
import Derived.Handy
import Derived.Lib.Hide
namespace Go.Proofs.Ytkhcdanjoaagbaa.fnIntPowAddsExponents
open Go.ChangeShapes Go.WideShapes Go.ChangeAt Go.RowKit
set_option linter.unusedVariables false

open Go.Proofs.Ytkhcdanjoaagbaa.plain

theorem own : ownKnob Try.prog.godebug = none := by kernel_rfl

/-! ### The walk -/
theorem ret_int {k : IntKind} {a b : Int} (h : a = b) : Ending.returned (.int k a) = .returned (.int k b) := by rw [h]
theorem ret_bool {a b : Bool} (h : a = b) : Ending.returned (.bool a) = .returned (.bool b) := by rw [h]
theorem wf_i64 {x : Int} (h : (Lit.int .i64 x).wf = true) : -9223372036854775808 ≤ x ∧ x ≤ 9223372036854775807 := by
  simpa [Lit.wf, IntKind.min, IntKind.max, IntKind.signed, IntKind.bits] using h
/-- what holds at the head of intPow's loop -/
def powRel (A B a b p : Int) : Prop := 0 ≤ b ∧ b ≤ 9223372036854775807 ∧ wrap64 (p * a ^ b.toNat) = powW A B ∧ -9223372036854775808 ≤ p ∧ p ≤ 9223372036854775807
set_option maxHeartbeats 400000 in
theorem intPow_any (a b : Int) (w : World) (h0 : 0 ≤ b) (h1 : b ≤ 9223372036854775807) :
    Calls Try.prog 23 #[.int .i64 a, .int .i64 b] w fun e w' => e = .returned (.int .i64 (powW a b)) ∧ w = w' := by
  go_enter Try.func23, Try.ntmps23
  go_wp2
  go_loop [0, 1, 5] (fun x y z => ∃ a' b' p' : Int, x = .int .i64 a' ∧ y = .int .i64 b' ∧ z = .int .i64 p' ∧ powRel a b a' b' p') (fun _ y _ => (intOf y).toNat)
  case atStart => exact ⟨a, b, 1, rfl, rfl, rfl, h0, h1, by rw [Int.one_mul]; rfl, by omega, by omega⟩
  case round =>
    obtain ⟨a', b', p', rfl, rfl, rfl, hr⟩ := hrel
    have HR := Lib.hid hr
    obtain ⟨r1, r2, r3, r4, r5⟩ := hr
    clear r3 r4 r5
    by_cases hz : 0 < b'
    · have HA := Lib.hid (and_one b' r1 r2)
      by_cases ho : b' % 2 = 0
      · have ht : (bits .and .i64 b' 1 != 0) = false := by rw [HA.out, ho]; rfl
        have HO := Lib.hid ho
        clear ho
        go_wp2
        go_round
        case rel => exact ⟨wrap64 (a' * a'), b' / 2, p', rfl, rfl, rfl, by omega, by omega, (step_even p' a' b' r1 HO.out).trans HR.out.2.2.1, HR.out.2.2.2⟩
        case measure => simp [intOf]; omega
      · have ho' : b' % 2 = 1 := by omega
        have ht : (bits .and .i64 b' 1 != 0) = true := by rw [HA.out, ho']; rfl
        have HO := Lib.hid ho'
        clear ho ho'
        go_wp2
        go_round
        case rel => exact ⟨wrap64 (a' * a'), b' / 2, wrap64 (p' * a'), rfl, rfl, rfl, by omega, by omega, (step_odd p' a' b' r1 HO.out).trans HR.out.2.2.1, wrap64_bd _⟩
        case measure => simp [intOf]; omega
    · have hb : b' = 0 := by omega
      subst hb
      go_wp2
      go_ret
      exact ⟨ret_int (by have h := HR.out; have e := h.2.2.1; simp at e; rw [← e]; exact (wrap64_id h.2.2.2.1 h.2.2.2.2).symm), rfl⟩
theorem walk (a0 : Int) (a1 : Int) (a2 : Int) (w0 : (Lit.int .i64 a0).wf = true) (w1 : (Lit.int .i64 a1).wf = true) (w2 : (Lit.int .i64 a2).wf = true) (w : World) :
    Calls Try.prog 3 #[.int .i64 a0, .int .i64 a1, .int .i64 a2] w fun e w' => e = .returned (.bool true) ∧ Grown w w' := by
  have b1 := wf_i64 w1; have b2 := wf_i64 w2
  clear w0 w1 w2
  by_cases k1 : a1 < 0
  · go_enter Try.func3, Try.ntmps3
    go_wp2
    go_ret
    exact ⟨rfl, Grown.refl _⟩
  · by_cases k2 : a2 < 0
    · go_enter Try.func3, Try.ntmps3
      go_wp2
      go_ret
      exact ⟨rfl, Grown.refl _⟩
    · by_cases k3 : 9223372036854775807 - a2 < a1
      · go_enter Try.func3, Try.ntmps3
        go_wp2
        go_ret
        exact ⟨rfl, Grown.refl _⟩
      · have t : (powW a0 (a1 + a2) == wrap64 (powW a0 a1 * powW a0 a2)) = true := by rw [powW_add a0 a1 a2 (by omega) (by omega)]; simp
        go_enter Try.func3, Try.ntmps3
        go_wp2_with (first | (go_at_call 23; refine (intPow_any _ _ _ (by omega) (by omega)).mono ?_; rintro e w' ⟨rfl, rfl⟩) | go_in)
        go_ret
        exact ⟨rfl, Grown.refl _⟩

/-! ### The row's step (frame) -/
set_option maxRecDepth 100000 in
theorem lifted (os : Os) (started : os.Started) (H : Type) (enc : TypeId × Value → H) :
    ReturnsInHanded {} Try.checked os 3 .any (Rows.fnIntPowAddsExponentsSpec.pre6 enc Try.prog Try.f3 Rows.fnIntPowAddsExponentsRow.domain false) (Rows.fnIntPowAddsExponentsSpec.post enc Try.prog Try.f3 false true false false) := by
  refine returnsInHanded_of_change (C := Try.checked) own started (by kernel_rfl) Try.func3
    (ChangeSpec.witness6 (enc := enc) (C := Try.checked) false ⟨#[], #[.int .i64 0, .int .i64 0, .int .i64 0], []⟩ 8 (by kernel_rfl) (by kernel_rfl) (by kernel_rfl) (by kernel_rfl)) ?_
  intro W base args ds gs before hval0 hW hcnd _
  have hval : ∀ (j : Nat) t v, Try.f3.params[j]? = some t → args[j]? = some v → Value.okWide Try.prog W .any base t v := hval0
  have hW' := hW
  obtain ⟨p, q, hA0, hV, rfl, hfz, hnd⟩ := hW
  have hA : DataW.TrodAll enc Try.prog W 0 (fun _ => true) true Try.f3.params.toList args.toList ds p := hA0
  rw [Try.params3] at hA hval
  obtain ⟨v0, vs0, d0, ds0, p0, q0, hargs, rfl, rfl, h0, r0⟩ := trodAll_cons hA
  obtain ⟨v1, vs1, d1, ds1, p1, q1, rfl, rfl, rfl, h1, r1⟩ := trodAll_cons r0
  obtain ⟨v2, vs2, d2, ds2, p2, q2, rfl, rfl, rfl, h2, r2⟩ := trodAll_cons r1
  obtain ⟨rfl, rfl, rfl⟩ := trodAll_nil r2
  obtain rfl : args = #[v0, v1, v2] := by cases args; simp_all
  obtain ⟨rfl, rfl⟩ := trodVars_none hV
  obtain ⟨a0, rfl, rfl, rfl, w0⟩ := open_int Try.underlying3 (hval 0 3 v0 rfl rfl) h0
  obtain ⟨a1, rfl, rfl, rfl, w1⟩ := open_int Try.underlying3 (hval 1 3 v1 rfl rfl) h1
  obtain ⟨a2, rfl, rfl, rfl, w2⟩ := open_int Try.underlying3 (hval 2 3 v2 rfl rfl) h2
  clear hA0 hval0
  simp only [List.append_nil] at hW'
  refine (walk a0 a1 a2 w0 w1 w2 W).mono fun e W' ⟨he, hg⟩ => ?_
  subst he
  exact ⟨_, rfl, post_of_same (pa := []) (pv := []) hW' (fun _ _ _ => (trodAll_cons_mk (shut_bool Try.underlying4 _) trodAll_mk0)) (fun sp _ => (trodAll_cons_mk (shut_int Try.underlying3 w0) (trodAll_cons_mk (shut_int Try.underlying3 w1) (trodAll_cons_mk (shut_int Try.underlying3 w2) trodAll_mk0)))) (fun _ _ => rfl) rfl
    (hg.frame _) hg.2.1 (ok_one (by kernel_rfl) rfl (okWide_bool_mk Try.underlying4 _))⟩

theorem over : Rows.fnIntPowAddsExponentsRow.holds Try.pinned (OpenSpec.ofChange Rows.fnIntPowAddsExponentsSpec) :=
  OpenClaim.holds_of_wide 3 Try.f3 rfl rfl rfl rfl rfl rfl rfl ⟨rfl, rfl, rfl, rfl, rfl⟩ rfl rfl rfl rfl rfl (by kernel_rfl) Try.func3 (by kernel_rfl)
    (of_decide_eq_true (by kernel_rfl)) (by unfold Func.isWrapper; first | (rw [if_pos (by decide +kernel)]; kernel_rfl) | (rw [if_neg (by decide +kernel)]; exact ⟨rfl, rfl⟩))
    (fun os started H enc _ => lifted os started H enc)

/-- The statement. -/
theorem proved : Rows.FnIntPowAddsExponentsSaid :=
  over
#print axioms proved
end Go.Proofs.Ytkhcdanjoaagbaa.fnIntPowAddsExponents
