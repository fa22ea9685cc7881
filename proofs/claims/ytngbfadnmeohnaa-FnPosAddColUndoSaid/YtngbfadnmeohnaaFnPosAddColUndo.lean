/-
  For all its arguments, FnPosAddColUndo returns true. No conditions.
  The frame round the walk was written by the kit's proof-skeleton.
-/
import Derived.Test.YtngbfadnmeohnaaRows
import Derived.WalkKit
import Derived.ProofKit
import Derived.OpenShut
import Derived.Test.YtngbfadnmeohnaaPos
namespace Go.Proofs.Ytngbfadnmeohnaa.fnPosAddColUndo
open Go.ChangeShapes Go.WideShapes Go.ChangeAt Go.RowKit
set_option linter.unusedVariables false

open Go.Proofs.Ytngbfadnmeohnaa.posn

theorem own : ownKnob Try.prog.godebug = none := by kernel_rfl

/-! ### The walk -/
def rawB (x y : Int) : Bool := decide (x ≤ 4294967284) && !decide (y = 0)
theorem raw_out {x y : Int} (h : rawB x y = true) : x ≤ 4294967284 ∧ (y != 0) = true := by
  simpa [rawB] using h
theorem raw_any (x y : Int) (w : World) (h0 : 0 ≤ x) (hx : x ≤ 4294967295) : Calls Try.prog 28 #[.int .u32 x, .int .u32 y] w fun e w' => e = .returned (.bool (rawB x y)) ∧ w = w' := by
  by_cases h1 : x ≤ 4294967284
  · by_cases h2 : y = 0
    · subst h2
      have K := Lib.hid (show false = rawB x 0 by simp [rawB])
      go_enter Try.func28, Try.ntmps28
      go_wp2
      go_ret
      exact ⟨ret_bool K.out, rfl⟩
    · have K := Lib.hid (show true = rawB x y by simp [rawB, h1, h2])
      have h3 : (y != 0) = true := by simpa using h2
      clear h2
      go_enter Try.func28, Try.ntmps28
      go_wp2
      go_ret
      exact ⟨ret_bool K.out, rfl⟩
  · have K := Lib.hid (show false = rawB x y by simp [rawB, h1])
    go_enter Try.func28, Try.ntmps28
    go_wp2
    go_ret
    exact ⟨ret_bool K.out, rfl⟩

set_option maxHeartbeats 1000000 in
theorem walk (a0 : Int) (a1 : Int) (a2 : Int) (w0 : (Lit.int .u32 a0).wf = true) (w1 : (Lit.int .u32 a1).wf = true) (w2 : (Lit.int .i64 a2).wf = true) (w : World) :
    Calls Try.prog 6 #[.int .u32 a0, .int .u32 a1, .int .i64 a2] w fun e w' => e = .returned (.bool true) ∧ Grown w w' := by
  have b0 := wf_u32 w0; have b1 := wf_u32 w1; have b2 := wf_i64 w2
  clear w0 w1 w2
  have m1 : 0 ≤ a1 % 16384 := by omega
  have m2 : a1 % 16384 ≤ 16383 := by omega
  by_cases k1 : 1099511627776 < a2
  · go_enter Try.func6, Try.ntmps6
    go_wp2_with (first | (go_at_call 28; refine (raw_any _ _ _ b0.1 b0.2).mono ?_; rintro e w' ⟨rfl, rfl⟩) | go_in)
    all_goals go_ret
    all_goals exact ⟨ret_bool (by first | rfl | (simp; omega)), by go_grown⟩
  · by_cases k2 : a2 < -1099511627776
    · go_enter Try.func6, Try.ntmps6
      go_wp2_with (first | (go_at_call 28; refine (raw_any _ _ _ b0.1 b0.2).mono ?_; rintro e w' ⟨rfl, rfl⟩) | go_in)
      all_goals go_ret
      all_goals exact ⟨ret_bool (by first | rfl | (simp; omega)), by go_grown⟩
    · cases k3 : rawB a0 a1
      · go_enter Try.func6, Try.ntmps6
        go_wp2_with (first | (go_at_call 28; refine (raw_any _ _ _ b0.1 b0.2).mono ?_; rintro e w' ⟨rfl, rfl⟩) | go_in)
        all_goals go_ret
        all_goals exact ⟨ret_bool (by first | rfl | (simp; omega)), by go_grown⟩
      · have v := raw_out k3
        have va := v.1; have vb := v.2
        clear v
        by_cases k4 : a0 + a2 < 0
        · go_enter Try.func6, Try.ntmps6
          go_wp2_with (first | (go_at_call 28; refine (raw_any _ _ _ b0.1 b0.2).mono ?_; rintro e w' ⟨rfl, rfl⟩) | go_in)
          all_goals go_ret
          all_goals exact ⟨ret_bool (by first | rfl | (simp; omega)), by go_grown⟩
        · by_cases k5 : 4294967284 < a0 + a2
          · go_enter Try.func6, Try.ntmps6
            go_wp2_with (first | (go_at_call 28; refine (raw_any _ _ _ b0.1 b0.2).mono ?_; rintro e w' ⟨rfl, rfl⟩) | go_in)
            all_goals go_ret
            all_goals exact ⟨ret_bool (by first | rfl | (simp; omega)), by go_grown⟩
          · by_cases k6 : a1 % 16384 = 0
            · have k6' : (a1 % 16384 != 0) = false := by simpa using k6
              have f1 : addOff a0 a2 = a0 + a2 := by unfold addOff; rw [if_neg (by omega), if_neg (by omega)]
              have f2 : addOff (addOff a0 a2) (-a2) = a0 := by rw [f1]; unfold addOff; rw [if_neg (by omega), if_neg (by omega)]; omega
              have f3 : addLC (addLC a1 a2) (-a2) = a1 := by
                have e1 := addLC_line a1 a2; have e2 := addLC_col a1 a2
                unfold addLC at *; unfold addCol at *; (repeat' split at *) <;> omega
              have f4 : (addLC a1 a2 != 0) = true := by
                have vb' : a1 ≠ 0 := by simpa using vb
                have : addLC a1 a2 ≠ 0 := by unfold addLC addCol; (repeat' split) <;> omega
                simpa using this
              have q1 := addOff_bd a0 a2
              have q2 := addLC_bd a1 a2 b1.1 b1.2
              clear f1 k6
              go_enter Try.func6, Try.ntmps6
              go_wp2_with (first | (go_at_call 28; refine (raw_any _ _ _ b0.1 b0.2).mono ?_; rintro e w' ⟨rfl, rfl⟩) | (go_at_call 43; first | (with_reducible refine (add_valid _ _ _ _ b0.1 va vb b1.1 b1.2 (by omega) (by omega)).mono ?_); rintro e w' ⟨rfl, rfl⟩ | (with_reducible refine (add_valid _ _ _ _ q1.1 q1.2 f4 q2.1 q2.2 (by omega) (by omega)).mono ?_); rintro e w' ⟨rfl, rfl⟩) | go_in)
              all_goals go_ret
              all_goals exact ⟨ret_bool (by first | rfl | (simp; omega)), by go_grown⟩
            · have k6' : (a1 % 16384 != 0) = true := by simpa using k6
              by_cases k7 : a1 % 16384 + a2 < 1
              · clear k6
                go_enter Try.func6, Try.ntmps6
                go_wp2_with (first | (go_at_call 28; refine (raw_any _ _ _ b0.1 b0.2).mono ?_; rintro e w' ⟨rfl, rfl⟩) | go_in)
                all_goals go_ret
                all_goals exact ⟨ret_bool (by first | rfl | (simp; omega)), by go_grown⟩
              · by_cases k8 : 16383 < a1 % 16384 + a2
                · clear k6
                  go_enter Try.func6, Try.ntmps6
                  go_wp2_with (first | (go_at_call 28; refine (raw_any _ _ _ b0.1 b0.2).mono ?_; rintro e w' ⟨rfl, rfl⟩) | go_in)
                  all_goals go_ret
                  all_goals exact ⟨ret_bool (by first | rfl | (simp; omega)), by go_grown⟩
                · have f1 : addOff a0 a2 = a0 + a2 := by unfold addOff; rw [if_neg (by omega), if_neg (by omega)]
                  have f2 : addOff (addOff a0 a2) (-a2) = a0 := by rw [f1]; unfold addOff; rw [if_neg (by omega), if_neg (by omega)]; omega
                  have f3 : addLC (addLC a1 a2) (-a2) = a1 := by
                    have e1 := addLC_line a1 a2; have e2 := addLC_col a1 a2
                    unfold addLC at *; unfold addCol at *; (repeat' split at *) <;> omega
                  have f4 : (addLC a1 a2 != 0) = true := by
                    have vb' : a1 ≠ 0 := by simpa using vb
                    have : addLC a1 a2 ≠ 0 := by unfold addLC addCol; (repeat' split) <;> omega
                    simpa using this
                  have q1 := addOff_bd a0 a2
                  have q2 := addLC_bd a1 a2 b1.1 b1.2
                  clear f1 k6
                  go_enter Try.func6, Try.ntmps6
                  go_wp2_with (first | (go_at_call 28; refine (raw_any _ _ _ b0.1 b0.2).mono ?_; rintro e w' ⟨rfl, rfl⟩) | (go_at_call 43; first | (with_reducible refine (add_valid _ _ _ _ b0.1 va vb b1.1 b1.2 (by omega) (by omega)).mono ?_); rintro e w' ⟨rfl, rfl⟩ | (with_reducible refine (add_valid _ _ _ _ q1.1 q1.2 f4 q2.1 q2.2 (by omega) (by omega)).mono ?_); rintro e w' ⟨rfl, rfl⟩) | go_in)
                  all_goals go_ret
                  all_goals exact ⟨ret_bool (by first | rfl | (simp; omega)), by go_grown⟩

/-! ### The row's step (frame) -/
set_option maxRecDepth 100000 in
theorem lifted (os : Os) (started : os.Started) (H : Type) (enc : TypeId × Value → H) :
    ReturnsInHanded {} Try.checked os 6 .any (Rows.fnPosAddColUndoSpec.pre6 enc Try.prog Try.f6 Rows.fnPosAddColUndoRow.domain false) (Rows.fnPosAddColUndoSpec.post enc Try.prog Try.f6 false true false false) := by
  refine returnsInHanded_of_change (C := Try.checked) own started (by kernel_rfl) Try.func6
    (ChangeSpec.witness6 (enc := enc) (C := Try.checked) false ⟨#[], #[.int .u32 0, .int .u32 0, .int .i64 0], []⟩ 8 (by kernel_rfl) (by kernel_rfl) (by kernel_rfl) (by kernel_rfl)) ?_
  intro W base args ds gs before hval0 hW hcnd _
  have hval : ∀ (j : Nat) t v, Try.f6.params[j]? = some t → args[j]? = some v → Value.okWide Try.prog W .any base t v := hval0
  have hW' := hW
  obtain ⟨p, q, hA0, hV, rfl, hfz, hnd⟩ := hW
  have hA : DataW.TrodAll enc Try.prog W 0 (fun _ => true) true Try.f6.params.toList args.toList ds p := hA0
  rw [Try.params6] at hA hval
  obtain ⟨v0, vs0, d0, ds0, p0, q0, hargs, rfl, rfl, h0, r0⟩ := trodAll_cons hA
  obtain ⟨v1, vs1, d1, ds1, p1, q1, rfl, rfl, rfl, h1, r1⟩ := trodAll_cons r0
  obtain ⟨v2, vs2, d2, ds2, p2, q2, rfl, rfl, rfl, h2, r2⟩ := trodAll_cons r1
  obtain ⟨rfl, rfl, rfl⟩ := trodAll_nil r2
  obtain rfl : args = #[v0, v1, v2] := by cases args; simp_all
  obtain ⟨rfl, rfl⟩ := trodVars_none hV
  obtain ⟨a0, rfl, rfl, rfl, w0⟩ := open_int Try.underlying22 (hval 0 22 v0 rfl rfl) h0
  obtain ⟨a1, rfl, rfl, rfl, w1⟩ := open_int Try.underlying22 (hval 1 22 v1 rfl rfl) h1
  obtain ⟨a2, rfl, rfl, rfl, w2⟩ := open_int Try.underlying3 (hval 2 3 v2 rfl rfl) h2
  clear hA0 hval0
  simp only [List.append_nil] at hW'
  refine (walk a0 a1 a2 w0 w1 w2 W).mono fun e W' ⟨he, hg⟩ => ?_
  subst he
  exact ⟨_, rfl, post_of_same (pa := []) (pv := []) hW' (fun _ _ _ => (trodAll_cons_mk (shut_bool Try.underlying4 _) trodAll_mk0)) (fun sp _ => (trodAll_cons_mk (shut_int Try.underlying22 w0) (trodAll_cons_mk (shut_int Try.underlying22 w1) (trodAll_cons_mk (shut_int Try.underlying3 w2) trodAll_mk0)))) (fun _ _ => rfl) rfl
    (hg.frame _) hg.2.1 (ok_one (by kernel_rfl) rfl (okWide_bool_mk Try.underlying4 _))⟩

theorem over : Rows.fnPosAddColUndoRow.holds Try.pinned (OpenSpec.ofChange Rows.fnPosAddColUndoSpec) :=
  OpenClaim.holds_of_wide 6 Try.f6 rfl rfl rfl rfl rfl rfl rfl ⟨rfl, rfl, rfl, rfl, rfl⟩ rfl rfl rfl rfl rfl (by kernel_rfl) Try.func6 (by kernel_rfl)
    (of_decide_eq_true (by kernel_rfl)) (by unfold Func.isWrapper; first | (rw [if_pos (by decide +kernel)]; kernel_rfl) | (rw [if_neg (by decide +kernel)]; exact ⟨rfl, rfl⟩))
    (fun os started H enc _ => lifted os started H enc)

/-- The statement. -/
theorem proved : Rows.FnPosAddColUndoSaid :=
  over
#print axioms proved
end Go.Proofs.Ytngbfadnmeohnaa.fnPosAddColUndo
