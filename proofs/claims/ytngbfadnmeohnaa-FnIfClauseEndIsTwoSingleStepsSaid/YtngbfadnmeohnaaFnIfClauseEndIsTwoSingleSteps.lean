/-
  For all offs and lineCol, FnIfClauseEndIsTwoSingleSteps returns true. No conditions.
  The frame round the walk was written by the kit's proof-skeleton.
-/
import Derived.Test.YtngbfadnmeohnaaRows
import Derived.WalkKit
import Derived.ProofKit
import Derived.OpenShut
import Derived.Test.YtngbfadnmeohnaaPos
import Derived.Deep.RegionHeld3
namespace Go.Proofs.Ytngbfadnmeohnaa.fnIfClauseEndIsTwoSingleSteps
open Go.ChangeShapes Go.WideShapes Go.ChangeAt Go.RowKit
set_option linter.unusedVariables false

open Go.Proofs.Ytngbfadnmeohnaa.posn

theorem own : ownKnob Try.prog.godebug = none := by kernel_rfl

/-! ### The walk -/
theorem ck {w : World} {a : Addr} {v : Value} (o : Obj) (h : w.cell? a = some v) : (w.alloc o).cell? a = some v := by rw [World.cell?_alloc_some w a o (by rw [h]; rfl), h]
theorem cd {w : World} {a : Addr} {v : Value} (h : w.cell? a = some v) : w.drew.cell? a = some v := h

def vB (x y : Int) : Bool := decide (x ≤ 4294967284) && !decide (y = 0)
theorem v_out {x y : Int} (h : vB x y = true) : x ≤ 4294967284 ∧ (y != 0) = true := by
  simpa [vB] using h
theorem v_no {x y : Int} (h : vB x y = false) : 4294967284 < x ∨ y = 0 := by
  simp [vB] at h; omega
theorem v_any (x y : Int) (w : World) : Calls Try.prog 24 #[.int .u32 x, .int .u32 y] w fun e w' => e = .returned (.bool (vB x y)) ∧ w = w' := by
  by_cases h1 : x ≤ 4294967284
  · by_cases h2 : y = 0
    · subst h2
      have K := Lib.hid (show false = vB x 0 by simp [vB])
      go_enter Try.func24, Try.ntmps24
      go_wp2
      go_ret
      exact ⟨ret_bool K.out, rfl⟩
    · have K := Lib.hid (show true = vB x y by simp [vB, h1, h2])
      have h3 : (y != 0) = true := by simpa using h2
      clear h2
      go_enter Try.func24, Try.ntmps24
      go_wp2
      go_ret
      exact ⟨ret_bool K.out, rfl⟩
  · have K := Lib.hid (show false = vB x y by simp [vB, h1])
    go_enter Try.func24, Try.ntmps24
    go_wp2
    go_ret
    exact ⟨ret_bool K.out, rfl⟩
def okB (x y : Int) : Bool := decide (x ≤ 4294967284) || (decide (x = 4294967285) && decide (y = 0))
theorem ok_any (x y : Int) (w : World) : Calls Try.prog 23 #[.int .u32 x, .int .u32 y] w fun e w' => e = .returned (.bool (okB x y)) ∧ w = w' := by
  by_cases h1 : x ≤ 4294967284
  · have K := Lib.hid (show true = okB x y by simp [okB, h1])
    go_enter Try.func23, Try.ntmps23
    go_wp2
    go_ret
    exact ⟨ret_bool K.out, rfl⟩
  · by_cases h2 : x = 4294967285
    · subst h2
      by_cases h3 : y = 0
      · subst h3
        go_enter Try.func23, Try.ntmps23
        go_wp2
        go_ret
        exact ⟨rfl, rfl⟩
      · have K := Lib.hid (show false = okB 4294967285 y by simp [okB, h3])
        have h4 : (y == 0) = false := by simpa using h3
        clear h3
        go_enter Try.func23, Try.ntmps23
        go_wp2
        go_ret
        exact ⟨ret_bool K.out, rfl⟩
    · have K := Lib.hid (show false = okB x y by simp [okB, h1, h2])
      have h4 : (x == 4294967285) = false := by simpa using h2
      clear h2
      go_enter Try.func23, Try.ntmps23
      go_wp2
      go_ret
      exact ⟨ret_bool K.out, rfl⟩
/-- IsValid at an invalid position -/
theorem valid_no (x y : Int) (w : World) (h : vB x y = false) :
    Calls Try.prog 21 #[.agg #[.int .u32 x, .int .u32 y]] w fun e w' => e = .returned (.bool false) ∧ w.alloc (.cells #[.int .u32 x, .int .u32 y] 26) = w' := by
  rcases v_no h with h | rfl
  · exact valid_big x y w h
  · exact valid_zero x w
/-- posAddCol at an invalid position gives it back -/
theorem add_no (x y n : Int) (w : World) (h : vB x y = false) :
    Calls Try.prog 43 #[.agg #[.int .u32 x, .int .u32 y], .int .i64 n] w fun e w' => e = .returned (.agg #[.int .u32 x, .int .u32 y]) ∧
      ((w.alloc (.cells #[.int .u32 x, .int .u32 y] 26)).alloc (.cells #[.int .u32 x, .int .u32 y] 26)).alloc (.cells #[.int .u32 x, .int .u32 y] 26) = w' := by
  go_enter Try.func43, Try.ntmps43
  go_wp2_with fail
  refine (valid_no _ _ _ h).mono ?_
  rintro e w' ⟨rfl, rfl⟩
  go_wp2_with fail
  exact bodyPost_ret (v := .agg #[_, _]) (by simp [results, Try.results43, go_sem]) rfl ⟨rfl, rfl⟩
/-- IfClause.End at a clause whose fi is valid -/
theorem ifEnd_valid (b : Nat) (x y : Int) (w : World) (c4 : w.cell? ⟨b, 4, none⟩ = some (.int .u32 x)) (c5 : w.cell? ⟨b, 5, none⟩ = some (.int .u32 y)) (h0 : 0 ≤ x) (h1 : x ≤ 4294967284) (h2 : (y != 0) = true) (hy0 : 0 ≤ y) (hy : y ≤ 4294967295) :
    Calls Try.prog 27 #[.pointer (some ⟨b, 0, none⟩)] w fun e w' => e = .returned (.agg #[.int .u32 (addOff x 2), .int .u32 (addLC y 2)]) ∧
      ((((w.alloc (.cells #[.int .u32 (addOff x 2), .int .u32 (addLC y 2)] 26)).alloc (.cells #[.int .u32 (addOff x 2), .int .u32 (addLC y 2)] 26)).alloc (.cells #[.int .u32 (addOff x 2), .int .u32 (addLC y 2)] 26)).alloc (.cells #[.int .u32 x, .int .u32 y] 26)).alloc (.cells #[.int .u32 x, .int .u32 y] 26) = w' := by
  have c4' := fun o => World.cell?_alloc_some w ⟨b, 4, none⟩ o (by rw [c4]; rfl)
  have c5' := fun o => World.cell?_alloc_some w ⟨b, 5, none⟩ o (by rw [c5]; rfl)
  go_enter Try.func27, Try.ntmps27
  go_wp2_with fail
  refine (add_valid _ _ _ _ h0 h1 h2 hy0 hy (by omega) (by omega)).mono ?_
  rintro e w' ⟨rfl, rfl⟩
  go_wp2_with fail
  exact bodyPost_ret (v := .agg #[_, _]) (by simp [results, Try.results27, go_sem]) rfl ⟨rfl, rfl⟩
/-- IfClause.End at a clause whose fi is invalid -/
theorem ifEnd_no (b : Nat) (x y : Int) (w : World) (c4 : w.cell? ⟨b, 4, none⟩ = some (.int .u32 x)) (c5 : w.cell? ⟨b, 5, none⟩ = some (.int .u32 y)) (h : vB x y = false) :
    Calls Try.prog 27 #[.pointer (some ⟨b, 0, none⟩)] w fun e w' => e = .returned (.agg #[.int .u32 x, .int .u32 y]) ∧
      (((w.alloc (.cells #[.int .u32 x, .int .u32 y] 26)).alloc (.cells #[.int .u32 x, .int .u32 y] 26)).alloc (.cells #[.int .u32 x, .int .u32 y] 26)).alloc (.cells #[.int .u32 x, .int .u32 y] 26) = w' := by
  have c4' := fun o => World.cell?_alloc_some w ⟨b, 4, none⟩ o (by rw [c4]; rfl)
  have c5' := fun o => World.cell?_alloc_some w ⟨b, 5, none⟩ o (by rw [c5]; rfl)
  go_enter Try.func27, Try.ntmps27
  go_wp2_with fail
  refine (add_no _ _ _ _ h).mono ?_
  rintro e w' ⟨rfl, rfl⟩
  go_wp2_with fail
  exact bodyPost_ret (v := .agg #[_, _]) (by simp [results, Try.results27, go_sem]) rfl ⟨rfl, rfl⟩
set_option maxHeartbeats 1000000 in
theorem walk (a0 : Int) (a1 : Int) (w0 : (Lit.int .u32 a0).wf = true) (w1 : (Lit.int .u32 a1).wf = true) (w : World) :
    Calls Try.prog 5 #[.int .u32 a0, .int .u32 a1] w fun e w' => e = .returned (.bool true) ∧ Grown w w' := by
  have b0 := wf_u32 w0; have b1 := wf_u32 w1
  clear w0 w1
  cases k1 : okB a0 a1
  · go_enter Try.func5, Try.ntmps5
    go_wp2_with (first | (go_at_call 23; refine (ok_any _ _ _).mono ?_; rintro e w' ⟨rfl, rfl⟩) | go_in)
    all_goals go_ret
    all_goals exact ⟨rfl, by go_grown⟩
  · cases k2 : vB a0 a1
    · go_enter Try.func5, Try.ntmps5
      go_wp2_with (first | (go_at_call 23; refine (ok_any _ _ _).mono ?_; rintro e w' ⟨rfl, rfl⟩) | (go_at_call 24; refine (v_any _ _ _).mono ?_; rintro e w' ⟨rfl, rfl⟩) | go_in)
      refine wp_loop_rounds 3 ?_
      rw [rounds_succ]
      go_wp2_with (first | (go_at_call 43; refine (add_no _ _ _ _ k2).mono ?_; rintro e w' ⟨rfl, rfl⟩) | go_in)
      rw [rounds_succ]
      go_wp2_with (first | (go_at_call 43; refine (add_no _ _ _ _ k2).mono ?_; rintro e w' ⟨rfl, rfl⟩) | go_in)
      rw [rounds_succ]
      go_wp2_with (first | (go_at_call 43; refine (add_no _ _ _ _ k2).mono ?_; rintro e w' ⟨rfl, rfl⟩) | go_in)
      generalize hW : World.alloc _ _ = W
      have c0 : W.cell? ⟨w.heap.size + 1 + 1 + 1, 0, none⟩ = some (.int .u32 a0) := by rw [← hW]; simp [go_sem]
      have c1 : W.cell? ⟨w.heap.size + 1 + 1 + 1, 1, none⟩ = some (.int .u32 a1) := by rw [← hW]; simp [go_sem]
      have c4 : W.cell? ⟨w.heap.size + 1 + 1, 4, none⟩ = some (.int .u32 a0) := by rw [← hW]; simp [go_sem]
      have c5 : W.cell? ⟨w.heap.size + 1 + 1, 5, none⟩ = some (.int .u32 a1) := by rw [← hW]; simp [go_sem]
      have hg : Grown w W := by rw [← hW]; go_grown
      clear hW
      go_region_held3 (fun w' => w'.cell? ⟨w.heap.size + 1 + 1 + 1, 0, none⟩ = some (.int .u32 a0) ∧ w'.cell? ⟨w.heap.size + 1 + 1 + 1, 1, none⟩ = some (.int .u32 a1) ∧ w'.cell? ⟨w.heap.size + 1 + 1, 4, none⟩ = some (.int .u32 a0) ∧ w'.cell? ⟨w.heap.size + 1 + 1, 5, none⟩ = some (.int .u32 a1) ∧ Grown w w') (refine ⟨?_, ?_, ?_, ?_, ?_⟩ <;> (repeat (first | (with_reducible assumption) | (with_reducible apply ck) | (with_reducible apply cd) | (with_reducible apply Grown.alloc) | (with_reducible apply Grown.drew))))
        (first | (go_at_call 27; (refine (ifEnd_no _ _ _ _ ?_ ?_ k2).mono ?_); (simp [*]); (simp [*]); rintro e w' ⟨rfl, rfl⟩))
      go_wp2
      go_ret
      exact ⟨rfl, by go_grown⟩
    · have v := v_out k2
      have va := v.1; have vb := v.2
      clear v
      by_cases k3 : a1 / 16384 = 0
      · have k3' : (a1 / 16384 == 0) = true := by simpa using k3
        go_enter Try.func5, Try.ntmps5
        go_wp2_with (first | (go_at_call 23; refine (ok_any _ _ _).mono ?_; rintro e w' ⟨rfl, rfl⟩) | (go_at_call 24; refine (v_any _ _ _).mono ?_; rintro e w' ⟨rfl, rfl⟩) | go_in)
        all_goals go_ret
        all_goals exact ⟨rfl, by go_grown⟩
      have k3' : (a1 / 16384 == 0) = false := by simpa using k3
      have f4 : (addLC a1 1 != 0) = true := by have := addLC_line a1 1; simp; omega
      have e1 : addOff (addOff a0 1) 1 = addOff a0 2 := by unfold addOff; (repeat' split) <;> omega
      have e2 : addLC (addLC a1 1) 1 = addLC a1 2 := by
        have h1 := addLC_line a1 1; have h2 := addLC_col a1 1
        have h3 := addCol_bd a1 1
        have h4 : addCol (addLC a1 1) 1 = addCol a1 2 := by
          unfold addCol; rw [h2]; unfold addCol; (repeat' split) <;> omega
        have h5 : addLC (addLC a1 1) 1 = addLC a1 1 / 16384 * 16384 + addCol (addLC a1 1) 1 := rfl
        have h6 : addLC a1 2 = a1 / 16384 * 16384 + addCol a1 2 := rfl
        rw [h5, h6, h1, h4]
      have q1 := addOff_bd a0 1
      have q2 := addLC_bd a1 1 b1.1 b1.2
      clear k3
      go_enter Try.func5, Try.ntmps5
      go_wp2_with (first | (go_at_call 23; refine (ok_any _ _ _).mono ?_; rintro e w' ⟨rfl, rfl⟩) | (go_at_call 24; refine (v_any _ _ _).mono ?_; rintro e w' ⟨rfl, rfl⟩) | go_in)
      refine wp_loop_rounds 3 ?_
      rw [rounds_succ]
      go_wp2_with (first | (go_at_call 43; first | ((with_reducible refine (add_valid a0 a1 _ _ b0.1 va vb b1.1 b1.2 (by omega) (by omega)).mono ?_); rintro e w' ⟨rfl, rfl⟩) | ((with_reducible refine (add_valid _ _ _ _ q1.1 q1.2 f4 q2.1 q2.2 (by omega) (by omega)).mono ?_); rintro e w' ⟨rfl, rfl⟩)) | go_in)
      rw [rounds_succ]
      go_wp2_with (first | (go_at_call 43; first | ((with_reducible refine (add_valid a0 a1 _ _ b0.1 va vb b1.1 b1.2 (by omega) (by omega)).mono ?_); rintro e w' ⟨rfl, rfl⟩) | ((with_reducible refine (add_valid _ _ _ _ q1.1 q1.2 f4 q2.1 q2.2 (by omega) (by omega)).mono ?_); rintro e w' ⟨rfl, rfl⟩)) | go_in)
      rw [rounds_succ]
      go_wp2_with (first | (go_at_call 43; first | ((with_reducible refine (add_valid a0 a1 _ _ b0.1 va vb b1.1 b1.2 (by omega) (by omega)).mono ?_); rintro e w' ⟨rfl, rfl⟩) | ((with_reducible refine (add_valid _ _ _ _ q1.1 q1.2 f4 q2.1 q2.2 (by omega) (by omega)).mono ?_); rintro e w' ⟨rfl, rfl⟩)) | go_in)
      generalize hW : World.alloc _ _ = W
      have c0 : W.cell? ⟨w.heap.size + 1 + 1 + 1, 0, none⟩ = some (.int .u32 (addOff a0 2)) := by rw [← hW]; simp [go_sem]
      have c1 : W.cell? ⟨w.heap.size + 1 + 1 + 1, 1, none⟩ = some (.int .u32 (addLC a1 2)) := by rw [← hW]; simp [go_sem]
      have c4 : W.cell? ⟨w.heap.size + 1 + 1, 4, none⟩ = some (.int .u32 a0) := by rw [← hW]; simp [go_sem]
      have c5 : W.cell? ⟨w.heap.size + 1 + 1, 5, none⟩ = some (.int .u32 a1) := by rw [← hW]; simp [go_sem]
      have hg : Grown w W := by rw [← hW]; go_grown
      clear hW
      go_region_held3 (fun w' => w'.cell? ⟨w.heap.size + 1 + 1 + 1, 0, none⟩ = some (.int .u32 (addOff a0 2)) ∧ w'.cell? ⟨w.heap.size + 1 + 1 + 1, 1, none⟩ = some (.int .u32 (addLC a1 2)) ∧ w'.cell? ⟨w.heap.size + 1 + 1, 4, none⟩ = some (.int .u32 a0) ∧ w'.cell? ⟨w.heap.size + 1 + 1, 5, none⟩ = some (.int .u32 a1) ∧ Grown w w') (refine ⟨?_, ?_, ?_, ?_, ?_⟩ <;> (repeat (first | (with_reducible assumption) | (with_reducible apply ck) | (with_reducible apply cd) | (with_reducible apply Grown.alloc) | (with_reducible apply Grown.drew))))
        (first | (go_at_call 27; (refine (ifEnd_valid _ _ _ _ ?_ ?_ b0.1 va vb b1.1 b1.2).mono ?_); (simp [*]); (simp [*]); rintro e w' ⟨rfl, rfl⟩))
      go_wp2
      go_ret
      exact ⟨rfl, by go_grown⟩

/-! ### The row's step (frame) -/
set_option maxRecDepth 100000 in
theorem lifted (os : Os) (started : os.Started) (H : Type) (enc : TypeId × Value → H) :
    ReturnsInHanded {} Try.checked os 5 .any (Rows.fnIfClauseEndIsTwoSingleStepsSpec.pre6 enc Try.prog Try.f5 Rows.fnIfClauseEndIsTwoSingleStepsRow.domain false) (Rows.fnIfClauseEndIsTwoSingleStepsSpec.post enc Try.prog Try.f5 false true false false) := by
  refine returnsInHanded_of_change (C := Try.checked) own started (by kernel_rfl) Try.func5
    (ChangeSpec.witness6 (enc := enc) (C := Try.checked) false ⟨#[], #[.int .u32 0, .int .u32 0], []⟩ 8 (by kernel_rfl) (by kernel_rfl) (by kernel_rfl) (by kernel_rfl)) ?_
  intro W base args ds gs before hval0 hW hcnd _
  have hval : ∀ (j : Nat) t v, Try.f5.params[j]? = some t → args[j]? = some v → Value.okWide Try.prog W .any base t v := hval0
  have hW' := hW
  obtain ⟨p, q, hA0, hV, rfl, hfz, hnd⟩ := hW
  have hA : DataW.TrodAll enc Try.prog W 0 (fun _ => true) true Try.f5.params.toList args.toList ds p := hA0
  rw [Try.params5] at hA hval
  obtain ⟨v0, vs0, d0, ds0, p0, q0, hargs, rfl, rfl, h0, r0⟩ := trodAll_cons hA
  obtain ⟨v1, vs1, d1, ds1, p1, q1, rfl, rfl, rfl, h1, r1⟩ := trodAll_cons r0
  obtain ⟨rfl, rfl, rfl⟩ := trodAll_nil r1
  obtain rfl : args = #[v0, v1] := by cases args; simp_all
  obtain ⟨rfl, rfl⟩ := trodVars_none hV
  obtain ⟨a0, rfl, rfl, rfl, w0⟩ := open_int Try.underlying22 (hval 0 22 v0 rfl rfl) h0
  obtain ⟨a1, rfl, rfl, rfl, w1⟩ := open_int Try.underlying22 (hval 1 22 v1 rfl rfl) h1
  clear hA0 hval0
  simp only [List.append_nil] at hW'
  refine (walk a0 a1 w0 w1 W).mono fun e W' ⟨he, hg⟩ => ?_
  subst he
  exact ⟨_, rfl, post_of_same (pa := []) (pv := []) hW' (fun _ _ _ => (trodAll_cons_mk (shut_bool Try.underlying4 _) trodAll_mk0)) (fun sp _ => (trodAll_cons_mk (shut_int Try.underlying22 w0) (trodAll_cons_mk (shut_int Try.underlying22 w1) trodAll_mk0))) (fun _ _ => rfl) rfl
    (hg.frame _) hg.2.1 (ok_one (by kernel_rfl) rfl (okWide_bool_mk Try.underlying4 _))⟩

theorem over : Rows.fnIfClauseEndIsTwoSingleStepsRow.holds Try.pinned (OpenSpec.ofChange Rows.fnIfClauseEndIsTwoSingleStepsSpec) :=
  OpenClaim.holds_of_wide 5 Try.f5 rfl rfl rfl rfl rfl rfl rfl ⟨rfl, rfl, rfl, rfl, rfl⟩ rfl rfl rfl rfl rfl (by kernel_rfl) Try.func5 (by kernel_rfl)
    (of_decide_eq_true (by kernel_rfl)) (by unfold Func.isWrapper; first | (rw [if_pos (by decide +kernel)]; kernel_rfl) | (rw [if_neg (by decide +kernel)]; exact ⟨rfl, rfl⟩))
    (fun os started H enc _ => lifted os started H enc)

/-- The statement. -/
theorem proved : Rows.FnIfClauseEndIsTwoSingleStepsSaid :=
  over
#print axioms proved
end Go.Proofs.Ytngbfadnmeohnaa.fnIfClauseEndIsTwoSingleSteps
