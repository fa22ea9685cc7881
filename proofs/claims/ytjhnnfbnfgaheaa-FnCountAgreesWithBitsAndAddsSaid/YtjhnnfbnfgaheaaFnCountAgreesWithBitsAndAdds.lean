/-
  For all ints a and b, FnCountAgreesWithBitsAndAdds returns true. No conditions.
  The frame round the walk was written by a printer (mkframe.py), after the kit's own shells.
-/
import Derived.Test.YtjhnnfbnfgaheaaRows
import Derived.WalkKit
import Derived.ProofKit
import Derived.OpenShut
import Derived.Test.YtjhnnfbnfgaheaaBits
import Derived.Test.YtjhnnfbnfgaheaaOnes
import Derived.ShutString
import Derived.ChangeOld
import Derived.Below
namespace Go.Proofs.Ytjhnnfbnfgaheaa.fnCountAgreesWithBitsAndAdds
open Go.ChangeShapes Go.WideShapes Go.ChangeAt Go.RowKit
open Go.ChangeMaps (open_string shut_string)
set_option linter.unusedVariables false
open Go.Proofs.Ytjhnnfbnfgaheaa.bitsOf

theorem own : ownKnob Try.prog.godebug = none := by kernel_rfl
theorem laidOut : laidOutB Try.prog = true := by kernel_rfl

theorem own_len {w : World} {B e : Nat} {v : Value} {n : Nat} {xs : List Value} (h : w.ownsRow B e 1 v n xs) : ∃ a c, v = .slice a n c := by
  rcases h.2 with ⟨rfl, rfl⟩ | ⟨g, cap, cur, rfl, _⟩
  · exact ⟨_, _, rfl⟩
  · exact ⟨_, _, rfl⟩
/-- zzBitsList hands back a slice of as many values as the low five bits set -/
def NPost (n : Nat) (w : World) (e : Ending) (w' : World) : Prop := ∃ a c, e = .returned (.slice a n c) ∧ Below w.heap.size w w'
theorem list_len (l : Int) (w : World) : Calls Try.prog 12 #[.int .i64 l] w (NPost (cntUp (lo l) 5) w) :=
  (list_any l w).mono fun e w' ⟨v, he, ho, hb⟩ => by
    obtain ⟨a, c, rfl⟩ := own_len ho
    rw [show (upto l 5).length = cntUp (lo l) 5 from upto_cnt l] at he
    exact ⟨a, c, he, hb⟩
set_option maxHeartbeats 4000000 in
theorem walk (a0 : Int) (a1 : Int) (w : World) (w0 : (Lit.int .i64 a0).wf = true) (w1 : (Lit.int .i64 a1).wf = true) :
    Calls Try.prog 4 #[.int .i64 a0, .int .i64 a1] w fun e w' => e = .returned (.bool true) ∧ Below w.heap.size w w' := by
  clear w0 w1
  obtain ⟨x, hx⟩ : ∃ x : Nat, x = cntUp (lo a0) 32 := ⟨_, rfl⟩
  obtain ⟨y, hy⟩ : ∃ y : Nat, y = cntUp (lo (bits .andNot .i64 a1 a0)) 32 := ⟨_, rfl⟩
  obtain ⟨m, hm⟩ : ∃ m : Nat, m = cntUp (lo a0) 5 := ⟨_, rfl⟩
  have lx : x ≤ 32 := hx ▸ cntUp_le _ _
  have ly : y ≤ 32 := hy ▸ cntUp_le _ _
  have lm : m ≤ 5 := hm ▸ cntUp_le _ _
  have K1 := Lib.hid (fun w => show Calls Try.prog 11 #[.int .i64 a0] w fun e w' => e = .returned (.int .i64 x) ∧ Below w.heap.size w w' from hx ▸ count_any a0 w)
  have K2 := Lib.hid (fun w => show Calls Try.prog 11 #[.int .i64 (bits .andNot .i64 a1 a0)] w fun e w' => e = .returned (.int .i64 y) ∧ Below w.heap.size w w' from hy ▸ count_any _ w)
  have K3 := Lib.hid (fun w => show Calls Try.prog 11 #[.int .i64 (bits .or .i64 a0 (bits .andNot .i64 a1 a0))] w fun e w' => e = .returned (.int .i64 ((x : Int) + y)) ∧ Below w.heap.size w w' from
    (count_any _ w).mono fun e w' h => ⟨by rw [h.1, cnt_adds, ← hx, ← hy]; push_cast; rfl, h.2⟩)
  have K4 := Lib.hid (fun w => show Calls Try.prog 11 #[.int .i64 (bits .and .i64 a0 31)] w fun e w' => e = .returned (.int .i64 m) ∧ Below w.heap.size w w' from
    (count_any _ w).mono fun e w' h => ⟨by rw [h.1, cnt_mask, ← hm], h.2⟩)
  have K5 := Lib.hid (fun w => show Calls Try.prog 11 #[.int .i64 31] w fun e w' => e = .returned (.int .i64 5) ∧ Below w.heap.size w w' from
    (count_any _ w).mono fun e w' h => ⟨h.1.trans rfl, h.2⟩)
  have L1 := Lib.hid (fun w => show Calls Try.prog 12 #[.int .i64 a0] w (NPost m w) from hm ▸ list_len a0 w)
  have L2 := Lib.hid (fun w => show Calls Try.prog 12 #[.int .i64 (bits .and .i64 a0 31)] w (NPost m w) from by
    have h := list_len (bits .and .i64 a0 31) w; rw [cnt_mask5, ← hm] at h; exact h)
  clear hx hy hm
  go_enter Try.func4, Try.ntmps4
  go_wp2_with fail
  refine (K1.out _).mono ?_
  rintro e w1 ⟨rfl, hb1⟩
  go_wp2_with fail
  refine (K2.out _).mono ?_
  rintro e w2 ⟨rfl, hb2⟩
  go_wp2_with fail
  refine (K3.out _).mono ?_
  rintro e w3 ⟨rfl, hb3⟩
  go_wp2_with fail
  refine (L2.out _).mono ?_
  rintro e w4 ⟨la, lc, rfl, hb4⟩
  go_wp2_with fail
  refine (K4.out _).mono ?_
  rintro e w5 ⟨rfl, hb5⟩
  go_wp2_with fail
  refine (L1.out _).mono ?_
  rintro e w6 ⟨lb, ld, rfl, hb6⟩
  go_wp2_with fail
  refine (K4.out _).mono ?_
  rintro e w7 ⟨rfl, hb7⟩
  go_wp2_with fail
  refine (K5.out _).mono ?_
  rintro e w8 ⟨rfl, hb8⟩
  go_wp2_with fail
  go_ret
  have z1 := hb1.size; have z2 := hb2.size; have z3 := hb3.size; have z4 := hb4.size; have z5 := hb5.size; have z6 := hb6.size; have z7 := hb7.size
  exact ⟨rfl, hb1.trans ((hb2.mono (by omega)).trans ((hb3.mono (by omega)).trans ((hb4.mono (by omega)).trans ((hb5.mono (by omega)).trans ((hb6.mono (by omega)).trans ((hb7.mono (by omega)).trans (hb8.mono (by omega))))))))⟩

/-! ### The row's step (frame) -/
set_option maxRecDepth 100000 in
theorem lifted (os : Os) (started : os.Started) (H : Type) (enc : TypeId × Value → H) :
    ReturnsInHanded {} Try.checked os 4 .any (Rows.fnCountAgreesWithBitsAndAddsSpec.pre6 enc Try.prog Try.f4 Rows.fnCountAgreesWithBitsAndAddsRow.domain false) (Rows.fnCountAgreesWithBitsAndAddsSpec.post enc Try.prog Try.f4 false true false false) := by
  refine returnsInHanded_of_change (C := Try.checked) own started (by kernel_rfl) Try.func4
    (ChangeSpec.witness6 (enc := enc) (C := Try.checked) false ⟨#[], #[.int .i64 0, .int .i64 0], []⟩ 8 (by kernel_rfl) (by kernel_rfl) (by kernel_rfl) (by kernel_rfl)) ?_
  intro W base args ds gs before hval0 hW hcnd _
  have hval : ∀ (j : Nat) t v, Try.f4.params[j]? = some t → args[j]? = some v → Value.okWide Try.prog W .any base t v := hval0
  have hW' := hW
  obtain ⟨p, q, hA0, hV, rfl, hfz, hnd⟩ := hW
  have hA : DataW.TrodAll enc Try.prog W 0 (fun _ => true) true Try.f4.params.toList args.toList ds p := hA0
  rw [Try.params4] at hA hval
  obtain ⟨v0, vs0, d0, ds0, p0, q0, hargs, rfl, rfl, h0, r0⟩ := trodAll_cons hA
  obtain ⟨v1, vs1, d1, ds1, p1, q1, rfl, rfl, rfl, h1, r1⟩ := trodAll_cons r0
  obtain ⟨rfl, rfl, rfl⟩ := trodAll_nil r1
  obtain rfl : args = #[v0, v1] := by cases args; simp_all
  obtain ⟨rfl, rfl⟩ := trodVars_none hV
  obtain ⟨a0, rfl, rfl, rfl, w0⟩ := open_int Try.underlying3 (hval 0 3 v0 rfl rfl) h0
  obtain ⟨a1, rfl, rfl, rfl, w1⟩ := open_int Try.underlying3 (hval 1 3 v1 rfl rfl) h1
  clear hA0 hval0
  refine (walk a0 a1 W w0 w1).mono fun e W' ⟨he, bel⟩ => ?_
  subst he
  exact ⟨_, rfl, _, _, _, [], _, [], hW', trodAll_mk1 (shut_bool Try.underlying4 _), (trodAll_cons_mk (shut_int Try.underlying3 w0) (trodAll_cons_mk (shut_int Try.underlying3 w1) trodAll_mk0)), rfl, bel.frame _, fun h => by cases h⟩

theorem over : Rows.fnCountAgreesWithBitsAndAddsRow.holds Try.pinned (OpenSpec.ofChange Rows.fnCountAgreesWithBitsAndAddsSpec) :=
  OpenClaim.holds_of_wide 4 Try.f4 rfl rfl rfl rfl rfl rfl rfl ⟨rfl, rfl, rfl, rfl, rfl⟩ rfl rfl rfl rfl rfl (by kernel_rfl) Try.func4 (by kernel_rfl)
    (of_decide_eq_true (by kernel_rfl)) (by unfold Func.isWrapper; first | (rw [if_pos (by decide +kernel)]; kernel_rfl) | (rw [if_neg (by decide +kernel)]; exact ⟨rfl, rfl⟩))
    (fun os started H enc _ => lifted os started H enc)

/-- The statement. -/
theorem proved : Rows.FnCountAgreesWithBitsAndAddsSaid := over
#print axioms proved
end Go.Proofs.Ytjhnnfbnfgaheaa.fnCountAgreesWithBitsAndAdds
