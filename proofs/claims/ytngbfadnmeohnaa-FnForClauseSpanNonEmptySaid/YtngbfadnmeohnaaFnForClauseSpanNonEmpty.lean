/-
  For all its arguments, FnForClauseSpanNonEmpty returns true. No conditions.
  The frame round the walk was written by the kit's proof-skeleton.
-/
import Derived.Test.YtngbfadnmeohnaaRows
import Derived.WalkKit
import Derived.ProofKit
import Derived.OpenShut
import Derived.Test.YtngbfadnmeohnaaPos
namespace Go.Proofs.Ytngbfadnmeohnaa.fnForClauseSpanNonEmpty
open Go.ChangeShapes Go.WideShapes Go.ChangeAt Go.RowKit
set_option linter.unusedVariables false

open Go.Proofs.Ytngbfadnmeohnaa.posn

theorem own : ownKnob Try.prog.godebug = none := by kernel_rfl

/-! ### The walk -/
def reachB (x l c : Int) : Bool := (!decide (262143 < l) && !decide (16383 < c)) && (decide (x ≤ 4294967284) || (decide (x = 4294967285) && decide (l = 0) && decide (c = 0)))
theorem reach_out {x l c : Int} (h : reachB x l c = true) : l ≤ 262143 ∧ c ≤ 16383 := by
  simp [reachB] at h; omega
theorem reach_any (x l c : Int) (w : World) : Calls Try.prog 17 #[.int .u32 x, .int .u32 l, .int .u32 c] w fun e w' => e = .returned (.bool (reachB x l c)) ∧ w = w' := by
  by_cases h1 : 262143 < l
  · have K := Lib.hid (show false = reachB x l c by simp [reachB, h1])
    go_enter Try.func17, Try.ntmps17
    go_wp2
    go_ret
    exact ⟨ret_bool K.out, rfl⟩
  · by_cases h2 : 16383 < c
    · have K := Lib.hid (show false = reachB x l c by simp [reachB, h2])
      go_enter Try.func17, Try.ntmps17
      go_wp2
      go_ret
      exact ⟨ret_bool K.out, rfl⟩
    · by_cases h3 : x ≤ 4294967284
      · have K := Lib.hid (show true = reachB x l c by simp [reachB, h1, h2, h3])
        go_enter Try.func17, Try.ntmps17
        go_wp2
        go_ret
        exact ⟨ret_bool K.out, rfl⟩
      · by_cases h4 : x = 4294967285
        · subst h4
          by_cases h5 : l = 0
          · subst h5
            by_cases h6 : c = 0
            · subst h6
              go_enter Try.func17, Try.ntmps17
              go_wp2
              go_ret
              exact ⟨rfl, rfl⟩
            · have K := Lib.hid (show false = reachB 4294967285 0 c by simp [reachB, h6])
              have h7 : (c == 0) = false := by simpa using h6
              clear h6
              go_enter Try.func17, Try.ntmps17
              go_wp2
              go_ret
              exact ⟨ret_bool K.out, rfl⟩
          · have K := Lib.hid (show false = reachB 4294967285 l c by simp [reachB, h5])
            have h7 : (l == 0) = false := by simpa using h5
            clear h5
            go_enter Try.func17, Try.ntmps17
            go_wp2
            go_ret
            exact ⟨ret_bool K.out, rfl⟩
        · have K := Lib.hid (show false = reachB x l c by simp [reachB, h3, h4])
          have h7 : (x == 4294967285) = false := by simpa using h4
          clear h4
          go_enter Try.func17, Try.ntmps17
          go_wp2
          go_ret
          exact ⟨ret_bool K.out, rfl⟩
theorem newp_any (x l c : Int) (w : World) (h1 : 0 ≤ l) (h2 : l ≤ 262143) (h3 : 0 ≤ c) (h4 : c ≤ 16383) :
    Calls Try.prog 18 #[.int .u32 x, .int .u32 l, .int .u32 c] w fun e w' => e = .returned (.agg #[.int .u32 x, .int .u32 (l * 16384 + c)]) ∧ w.alloc (.cells #[.int .u32 x, .int .u32 (l * 16384 + c)] 26) = w' := by
  have K := Lib.hid (or14 l c h1 h2 h3 h4)
  go_enter Try.func18, Try.ntmps18
  go_wp2
  rw [← K.out]
  exact bodyPost_ret (v := .agg #[_, _]) (by simp [results, Try.results18, go_sem]) rfl ⟨rfl, rfl⟩

set_option maxHeartbeats 1000000 in
theorem walk (a0 : Int) (a1 : Int) (a2 : Int) (a3 : Int) (a4 : Int) (a5 : Int) (a6 : Bool) (w0 : (Lit.int .u32 a0).wf = true) (w1 : (Lit.int .u32 a1).wf = true) (w2 : (Lit.int .u32 a2).wf = true) (w3 : (Lit.int .u32 a3).wf = true) (w4 : (Lit.int .u32 a4).wf = true) (w5 : (Lit.int .u32 a5).wf = true) (w : World) :
    Calls Try.prog 4 #[.int .u32 a0, .int .u32 a1, .int .u32 a2, .int .u32 a3, .int .u32 a4, .int .u32 a5, .bool a6] w fun e w' => e = .returned (.bool true) ∧ Grown w w' := by
  have b0 := wf_u32 w0; have b1 := wf_u32 w1; have b2 := wf_u32 w2; have b3 := wf_u32 w3; have b4 := wf_u32 w4; have b5 := wf_u32 w5
  clear w0 w1 w2 w3 w4 w5
  cases k1 : reachB a0 a1 a2
  · go_enter Try.func4, Try.ntmps4
    go_wp2_with (first | (go_at_call 17; refine (reach_any _ _ _ _).mono ?_; rintro e w' ⟨rfl, rfl⟩) | go_in)
    all_goals go_ret
    all_goals exact ⟨ret_bool (by first | rfl | (simp; omega)), by go_grown⟩
  · cases k2 : reachB a3 a4 a5
    · go_enter Try.func4, Try.ntmps4
      go_wp2_with (first | (go_at_call 17; refine (reach_any _ _ _ _).mono ?_; rintro e w' ⟨rfl, rfl⟩) | go_in)
      all_goals go_ret
      all_goals exact ⟨ret_bool (by first | rfl | (simp; omega)), by go_grown⟩
    · have r1 := reach_out k1
      have r2 := reach_out k2
      by_cases k3 : a1 = 0
      · subst k3
        go_enter Try.func4, Try.ntmps4
        go_wp2_with (first | (go_at_call 17; refine (reach_any _ _ _ _).mono ?_; rintro e w' ⟨rfl, rfl⟩) | go_in)
        all_goals go_ret
        all_goals exact ⟨ret_bool (by first | rfl | (simp; omega)), by go_grown⟩
      · have k3' : (a1 == 0) = false := by simpa using k3
        by_cases k4 : a4 = 0
        · subst k4
          go_enter Try.func4, Try.ntmps4
          go_wp2_with (first | (go_at_call 17; refine (reach_any _ _ _ _).mono ?_; rintro e w' ⟨rfl, rfl⟩) | go_in)
          all_goals go_ret
          all_goals exact ⟨ret_bool (by first | rfl | (simp; omega)), by go_grown⟩
        · have k4' : (a4 == 0) = false := by simpa using k4
          by_cases k5 : a3 < 4294967284
          · by_cases k6 : a3 < a0
            · clear k3 k4
              go_enter Try.func4, Try.ntmps4
              go_wp2_with (first | (go_at_call 17; refine (reach_any _ _ _ _).mono ?_; rintro e w' ⟨rfl, rfl⟩) | go_in)
              all_goals go_ret
              all_goals exact ⟨ret_bool (by first | rfl | (simp; omega)), by go_grown⟩
            · have v1 : (a1 * 16384 + a2 != 0) = true := by simp; omega
              have v2 : (a4 * 16384 + a5 != 0) = true := by simp; omega
              cases a6
              · have v3 : (addLC (a4 * 16384 + a5) 4 != 0) = true := by have := addLC_line (a4 * 16384 + a5) 4; simp; omega
                have v4 : a0 < addOff a3 4 := by unfold addOff; rw [if_neg (by omega)]; split <;> omega
                have v5 : a3 < addOff a3 4 := by unfold addOff; rw [if_neg (by omega)]; split <;> omega
                have v6 : ¬ addOff a3 4 < a0 := by omega
                have q1 := addOff_bd a3 4
                have q2 := addLC_bd (a4 * 16384 + a5) 4 (by omega) (by omega)
                have v7 : (addLC (a4 * 16384 + a5) 4 / 16384 == a4) = true := by rw [addLC_line]; simp; omega
                clear k3 k4
                go_enter Try.func4, Try.ntmps4
                go_wp2_with (first | (go_at_call 17; refine (reach_any _ _ _ _).mono ?_; rintro e w' ⟨rfl, rfl⟩) | (go_at_call 18; refine (newp_any _ _ _ _ (by omega) (by omega) (by omega) (by omega)).mono ?_; rintro e w' ⟨rfl, rfl⟩) | (go_at_call 43; refine (add_valid _ _ _ _ (by omega) (by omega) v2 (by omega) (by omega) (by omega) (by omega)).mono ?_; rintro e w' ⟨rfl, rfl⟩) | (go_at_call 21; refine (valid_yes _ _ _ q1.2 v3).mono ?_; rintro e w' ⟨rfl, rfl⟩) | (go_at_call 15; first | (with_reducible refine (after_valid _ _ _ _ _ q1.2 v3).mono ?_); rintro e w' ⟨rfl, rfl⟩ | (with_reducible refine (after_valid _ _ _ _ _ (by omega) v1).mono ?_); rintro e w' ⟨rfl, rfl⟩) | (go_at_call 22; refine (line_any _ _ _ q2.1 q2.2).mono ?_; rintro e w' ⟨rfl, rfl⟩) | go_in)
                all_goals go_ret
                all_goals exact ⟨ret_bool (by first | rfl | (simp; omega)), by go_grown⟩
              · have v3 : (addLC (a4 * 16384 + a5) 1 != 0) = true := by have := addLC_line (a4 * 16384 + a5) 1; simp; omega
                have v4 : a0 < addOff a3 1 := by unfold addOff; rw [if_neg (by omega)]; split <;> omega
                have v5 : a3 < addOff a3 1 := by unfold addOff; rw [if_neg (by omega)]; split <;> omega
                have v6 : ¬ addOff a3 1 < a0 := by omega
                have q1 := addOff_bd a3 1
                have q2 := addLC_bd (a4 * 16384 + a5) 1 (by omega) (by omega)
                have v7 : (addLC (a4 * 16384 + a5) 1 / 16384 == a4) = true := by rw [addLC_line]; simp; omega
                clear k3 k4
                go_enter Try.func4, Try.ntmps4
                go_wp2_with (first | (go_at_call 17; refine (reach_any _ _ _ _).mono ?_; rintro e w' ⟨rfl, rfl⟩) | (go_at_call 18; refine (newp_any _ _ _ _ (by omega) (by omega) (by omega) (by omega)).mono ?_; rintro e w' ⟨rfl, rfl⟩) | (go_at_call 43; refine (add_valid _ _ _ _ (by omega) (by omega) v2 (by omega) (by omega) (by omega) (by omega)).mono ?_; rintro e w' ⟨rfl, rfl⟩) | (go_at_call 21; refine (valid_yes _ _ _ q1.2 v3).mono ?_; rintro e w' ⟨rfl, rfl⟩) | (go_at_call 15; first | (with_reducible refine (after_valid _ _ _ _ _ q1.2 v3).mono ?_); rintro e w' ⟨rfl, rfl⟩ | (with_reducible refine (after_valid _ _ _ _ _ (by omega) v1).mono ?_); rintro e w' ⟨rfl, rfl⟩) | (go_at_call 22; refine (line_any _ _ _ q2.1 q2.2).mono ?_; rintro e w' ⟨rfl, rfl⟩) | go_in)
                all_goals go_ret
                all_goals exact ⟨ret_bool (by first | rfl | (simp; omega)), by go_grown⟩
          · clear k3 k4
            go_enter Try.func4, Try.ntmps4
            go_wp2_with (first | (go_at_call 17; refine (reach_any _ _ _ _).mono ?_; rintro e w' ⟨rfl, rfl⟩) | go_in)
            all_goals go_ret
            all_goals exact ⟨ret_bool (by first | rfl | (simp; omega)), by go_grown⟩

/-! ### The row's step (frame) -/
set_option maxRecDepth 100000 in
theorem lifted (os : Os) (started : os.Started) (H : Type) (enc : TypeId × Value → H) :
    ReturnsInHanded {} Try.checked os 4 .any (Rows.fnForClauseSpanNonEmptySpec.pre6 enc Try.prog Try.f4 Rows.fnForClauseSpanNonEmptyRow.domain false) (Rows.fnForClauseSpanNonEmptySpec.post enc Try.prog Try.f4 false true false false) := by
  refine returnsInHanded_of_change (C := Try.checked) own started (by kernel_rfl) Try.func4
    (ChangeSpec.witness6 (enc := enc) (C := Try.checked) false ⟨#[], #[.int .u32 0, .int .u32 0, .int .u32 0, .int .u32 0, .int .u32 0, .int .u32 0, .bool false], []⟩ 8 (by kernel_rfl) (by kernel_rfl) (by kernel_rfl) (by kernel_rfl)) ?_
  intro W base args ds gs before hval0 hW hcnd _
  have hval : ∀ (j : Nat) t v, Try.f4.params[j]? = some t → args[j]? = some v → Value.okWide Try.prog W .any base t v := hval0
  have hW' := hW
  obtain ⟨p, q, hA0, hV, rfl, hfz, hnd⟩ := hW
  have hA : DataW.TrodAll enc Try.prog W 0 (fun _ => true) true Try.f4.params.toList args.toList ds p := hA0
  rw [Try.params4] at hA hval
  obtain ⟨v0, vs0, d0, ds0, p0, q0, hargs, rfl, rfl, h0, r0⟩ := trodAll_cons hA
  obtain ⟨v1, vs1, d1, ds1, p1, q1, rfl, rfl, rfl, h1, r1⟩ := trodAll_cons r0
  obtain ⟨v2, vs2, d2, ds2, p2, q2, rfl, rfl, rfl, h2, r2⟩ := trodAll_cons r1
  obtain ⟨v3, vs3, d3, ds3, p3, q3, rfl, rfl, rfl, h3, r3⟩ := trodAll_cons r2
  obtain ⟨v4, vs4, d4, ds4, p4, q4, rfl, rfl, rfl, h4, r4⟩ := trodAll_cons r3
  obtain ⟨v5, vs5, d5, ds5, p5, q5, rfl, rfl, rfl, h5, r5⟩ := trodAll_cons r4
  obtain ⟨v6, vs6, d6, ds6, p6, q6, rfl, rfl, rfl, h6, r6⟩ := trodAll_cons r5
  obtain ⟨rfl, rfl, rfl⟩ := trodAll_nil r6
  obtain rfl : args = #[v0, v1, v2, v3, v4, v5, v6] := by cases args; simp_all
  obtain ⟨rfl, rfl⟩ := trodVars_none hV
  obtain ⟨a0, rfl, rfl, rfl, w0⟩ := open_int Try.underlying22 (hval 0 22 v0 rfl rfl) h0
  obtain ⟨a1, rfl, rfl, rfl, w1⟩ := open_int Try.underlying22 (hval 1 22 v1 rfl rfl) h1
  obtain ⟨a2, rfl, rfl, rfl, w2⟩ := open_int Try.underlying22 (hval 2 22 v2 rfl rfl) h2
  obtain ⟨a3, rfl, rfl, rfl, w3⟩ := open_int Try.underlying22 (hval 3 22 v3 rfl rfl) h3
  obtain ⟨a4, rfl, rfl, rfl, w4⟩ := open_int Try.underlying22 (hval 4 22 v4 rfl rfl) h4
  obtain ⟨a5, rfl, rfl, rfl, w5⟩ := open_int Try.underlying22 (hval 5 22 v5 rfl rfl) h5
  obtain ⟨a6, rfl, rfl, rfl⟩ := open_bool Try.underlying4 (hval 6 4 v6 rfl rfl) h6
  clear hA0 hval0
  simp only [List.append_nil] at hW'
  refine (walk a0 a1 a2 a3 a4 a5 a6 w0 w1 w2 w3 w4 w5 W).mono fun e W' ⟨he, hg⟩ => ?_
  subst he
  exact ⟨_, rfl, post_of_same (pa := []) (pv := []) hW' (fun _ _ _ => (trodAll_cons_mk (shut_bool Try.underlying4 _) trodAll_mk0)) (fun sp _ => (trodAll_cons_mk (shut_int Try.underlying22 w0) (trodAll_cons_mk (shut_int Try.underlying22 w1) (trodAll_cons_mk (shut_int Try.underlying22 w2) (trodAll_cons_mk (shut_int Try.underlying22 w3) (trodAll_cons_mk (shut_int Try.underlying22 w4) (trodAll_cons_mk (shut_int Try.underlying22 w5) (trodAll_cons_mk (shut_bool Try.underlying4 _) trodAll_mk0)))))))) (fun _ _ => rfl) rfl
    (hg.frame _) hg.2.1 (ok_one (by kernel_rfl) rfl (okWide_bool_mk Try.underlying4 _))⟩

theorem over : Rows.fnForClauseSpanNonEmptyRow.holds Try.pinned (OpenSpec.ofChange Rows.fnForClauseSpanNonEmptySpec) :=
  OpenClaim.holds_of_wide 4 Try.f4 rfl rfl rfl rfl rfl rfl rfl ⟨rfl, rfl, rfl, rfl, rfl⟩ rfl rfl rfl rfl rfl (by kernel_rfl) Try.func4 (by kernel_rfl)
    (of_decide_eq_true (by kernel_rfl)) (by unfold Func.isWrapper; first | (rw [if_pos (by decide +kernel)]; kernel_rfl) | (rw [if_neg (by decide +kernel)]; exact ⟨rfl, rfl⟩))
    (fun os started H enc _ => lifted os started H enc)

/-- The statement. -/
theorem proved : Rows.FnForClauseSpanNonEmptySaid :=
  over
#print axioms proved
end Go.Proofs.Ytngbfadnmeohnaa.fnForClauseSpanNonEmpty
