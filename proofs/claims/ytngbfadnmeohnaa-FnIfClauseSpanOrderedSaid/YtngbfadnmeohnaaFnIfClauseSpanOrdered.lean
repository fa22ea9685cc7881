/-
  For all four uint32 arguments, FnIfClauseSpanOrdered returns true. No conditions.
  The frame round the walk was written by the kit's proof-skeleton.
-/
import Derived.Test.YtngbfadnmeohnaaRows
import Derived.WalkKit
import Derived.ProofKit
import Derived.OpenShut
import Derived.Test.YtngbfadnmeohnaaPos
import Derived.Deep.RegionHeld3
namespace Go.Proofs.Ytngbfadnmeohnaa.fnIfClauseSpanOrdered
open Go.ChangeShapes Go.WideShapes Go.ChangeAt Go.RowKit
set_option linter.unusedVariables false

open Go.Proofs.Ytngbfadnmeohnaa.posn

theorem own : ownKnob Try.prog.godebug = none := by kernel_rfl

/-! ### The walk -/
def vB (x y : Int) : Bool := decide (x ≤ 4294967284) && !decide (y = 0)
theorem v_out {x y : Int} (h : vB x y = true) : x ≤ 4294967284 ∧ (y != 0) = true := by
  simpa [vB] using h
theorem v_any (x y : Int) (w : World) : Calls Try.prog 24 #[.int .u32 x, .int .u32 y] w fun e w' => e = .returned (.bool (vB x y)) ∧ w = w' := by
  by_cases h1 : x ≤ 4294967284
  · by_cases h2 : y = 0
    · subst h2
      have K := Lib.hid (show false = vB x 0 by simp [vB])
      go_enter Try.func24, Try.ntmps24
      go_wp2
      go_ret
      exact ⟨ret_bool K.out, rfl⟩
    · have K := Lib.hid (show true = vB x y by simp [vB, h1, h2])
      have h3 : (y != 0) = true := by simpa using h2
      clear h2
      go_enter Try.func24, Try.ntmps24
      go_wp2
      go_ret
      exact ⟨ret_bool K.out, rfl⟩
  · have K := Lib.hid (show false = vB x y by simp [vB, h1])
    go_enter Try.func24, Try.ntmps24
    go_wp2
    go_ret
    exact ⟨ret_bool K.out, rfl⟩
set_option maxHeartbeats 1000000 in
theorem walk (a0 : Int) (a1 : Int) (a2 : Int) (a3 : Int) (w0 : (Lit.int .u32 a0).wf = true) (w1 : (Lit.int .u32 a1).wf = true) (w2 : (Lit.int .u32 a2).wf = true) (w3 : (Lit.int .u32 a3).wf = true) (w : World) :
    Calls Try.prog 8 #[.int .u32 a0, .int .u32 a1, .int .u32 a2, .int .u32 a3] w fun e w' => e = .returned (.bool true) ∧ Grown w w' := by
  have b0 := wf_u32 w0; have b1 := wf_u32 w1; have b2 := wf_u32 w2; have b3 := wf_u32 w3
  clear w0 w1 w2 w3
  cases k1 : vB a0 a1
  · go_enter Try.func8, Try.ntmps8
    go_wp2_with (first | (go_at_call 24; refine (v_any _ _ _).mono ?_; rintro e w' ⟨rfl, rfl⟩) | go_in)
    all_goals go_ret
    all_goals exact ⟨ret_bool (by first | rfl | (simp; omega)), by go_grown⟩
  · cases k2 : vB a2 a3
    · go_enter Try.func8, Try.ntmps8
      go_wp2_with (first | (go_at_call 24; refine (v_any _ _ _).mono ?_; rintro e w' ⟨rfl, rfl⟩) | go_in)
      all_goals go_ret
      all_goals exact ⟨ret_bool (by first | rfl | (simp; omega)), by go_grown⟩
    · have v1 := v_out k1
      have v2 := v_out k2
      have v1a := v1.1; have v1b := v1.2; have v2a := v2.1; have v2b := v2.2
      clear v1 v2
      by_cases k3 : 4294967284 ≤ a0
      · go_enter Try.func8, Try.ntmps8
        go_wp2_with (first | (go_at_call 24; refine (v_any _ _ _).mono ?_; rintro e w' ⟨rfl, rfl⟩) | go_in)
        all_goals go_ret
        all_goals exact ⟨ret_bool (by first | rfl | (simp; omega)), by go_grown⟩
      · by_cases k4 : a2 < a0
        · go_enter Try.func8, Try.ntmps8
          go_wp2_with (first | (go_at_call 24; refine (v_any _ _ _).mono ?_; rintro e w' ⟨rfl, rfl⟩) | go_in)
          all_goals go_ret
          all_goals exact ⟨ret_bool (by first | rfl | (simp; omega)), by go_grown⟩
        · by_cases k5 : a3 / 16384 = 0
          · have k5' : (a3 / 16384 == 0) = true := by simpa using k5
            go_enter Try.func8, Try.ntmps8
            go_wp2_with (first | (go_at_call 24; refine (v_any _ _ _).mono ?_; rintro e w' ⟨rfl, rfl⟩) | go_in)
            all_goals go_ret
            all_goals exact ⟨ret_bool (by first | rfl | (simp; omega)), by go_grown⟩
          · have k5' : (a3 / 16384 == 0) = false := by simpa using k5
            clear k5
            have k5 : 1 ≤ a3 / 16384 := by have : a3 / 16384 ≠ 0 := by simpa using k5'
                                           omega
            have f1 : (addLC a3 2 != 0) = true := by have := addLC_line a3 2; simp; omega
            have f2 : a0 < addOff a2 2 := by unfold addOff; rw [if_neg (by omega)]; split <;> omega
            have f3 : ¬ addOff a2 2 < a0 := by omega
            have q1 := addOff_bd a2 2
            have q2 := addLC_bd a3 2 b3.1 b3.2
            have f4 : (addLC a3 2 / 16384 != a3 / 16384) = false := by rw [addLC_line]; simp
            by_cases k6 : a2 + 2 ≤ 4294967284
            · have f5 : (addOff a2 2 == a2 + 2) = true := by unfold addOff; rw [if_neg (by omega), if_neg (by omega)]; simp
              go_enter Try.func8, Try.ntmps8
              go_wp2_with (first | (go_at_call 24; refine (v_any _ _ _).mono ?_; rintro e w' ⟨rfl, rfl⟩) | (go_at_call 43; refine (add_valid _ _ _ _ b2.1 v2a v2b b3.1 b3.2 (by omega) (by omega)).mono ?_; rintro e w' ⟨rfl, rfl⟩) | (go_at_call 15; first | ((with_reducible refine (after_valid _ _ _ _ _ q1.2 f1).mono ?_); rintro e w' ⟨rfl, rfl⟩) | ((with_reducible refine (after_valid _ _ _ _ _ v1a v1b).mono ?_); rintro e w' ⟨rfl, rfl⟩)) | go_in)
              generalize hW : World.alloc _ _ = W
              have c0 : W.cell? ⟨w.heap.size + 1 + 1 + 1 + 1 + 1 + 1 + 1 + 1 + 1 + 1 + 1 + 1, 0, none⟩ = some (.int .u32 (addOff a2 2)) := by rw [← hW]; simp [go_sem]
              have c1 : W.cell? ⟨w.heap.size + 1 + 1 + 1 + 1 + 1 + 1 + 1 + 1 + 1 + 1 + 1 + 1, 1, none⟩ = some (.int .u32 (addLC a3 2)) := by rw [← hW]; simp [go_sem]
              have c2 : W.cell? ⟨w.heap.size + 1 + 1 + 1, 0, none⟩ = some (.int .u32 a2) := by rw [← hW]; simp [go_sem]
              have c3 : W.cell? ⟨w.heap.size + 1 + 1 + 1, 1, none⟩ = some (.int .u32 a3) := by rw [← hW]; simp [go_sem]
              have hg : Grown w W := by rw [← hW]; go_grown
              clear hW
              go_region_held3 (fun w' => w'.cell? ⟨w.heap.size + 1 + 1 + 1 + 1 + 1 + 1 + 1 + 1 + 1 + 1 + 1 + 1, 0, none⟩ = some (.int .u32 (addOff a2 2)) ∧ w'.cell? ⟨w.heap.size + 1 + 1 + 1 + 1 + 1 + 1 + 1 + 1 + 1 + 1 + 1 + 1, 1, none⟩ = some (.int .u32 (addLC a3 2)) ∧ w'.cell? ⟨w.heap.size + 1 + 1 + 1, 0, none⟩ = some (.int .u32 a2) ∧ w'.cell? ⟨w.heap.size + 1 + 1 + 1, 1, none⟩ = some (.int .u32 a3) ∧ Grown w w') (refine ⟨?_, ?_, ?_, ?_, ?_⟩ <;> first | (simp [*, World.cell?_alloc_some]; done) | go_grown)
                (first | (go_at_call 22; first | ((with_reducible refine (line_any _ _ _ q2.1 q2.2).mono ?_); rintro e w' ⟨rfl, rfl⟩) | ((with_reducible refine (line_any _ _ _ b3.1 b3.2).mono ?_); rintro e w' ⟨rfl, rfl⟩)))
              go_wp2_with (first | (go_at_call 38; refine (offset_any _ _ _ q1.1 q1.2).mono ?_; rintro e w' ⟨rfl, rfl⟩) | go_in)
              go_ret
              exact ⟨ret_bool (by first | rfl | (simp; omega)), by go_grown⟩
            · have f5 : (addOff a2 2 == 4294967284) = true := by unfold addOff; rw [if_neg (by omega), if_pos (by omega)]; simp
              go_enter Try.func8, Try.ntmps8
              go_wp2_with (first | (go_at_call 24; refine (v_any _ _ _).mono ?_; rintro e w' ⟨rfl, rfl⟩) | (go_at_call 43; refine (add_valid _ _ _ _ b2.1 v2a v2b b3.1 b3.2 (by omega) (by omega)).mono ?_; rintro e w' ⟨rfl, rfl⟩) | (go_at_call 15; first | ((with_reducible refine (after_valid _ _ _ _ _ q1.2 f1).mono ?_); rintro e w' ⟨rfl, rfl⟩) | ((with_reducible refine (after_valid _ _ _ _ _ v1a v1b).mono ?_); rintro e w' ⟨rfl, rfl⟩)) | go_in)
              generalize hW : World.alloc _ _ = W
              have c0 : W.cell? ⟨w.heap.size + 1 + 1 + 1 + 1 + 1 + 1 + 1 + 1 + 1 + 1 + 1 + 1, 0, none⟩ = some (.int .u32 (addOff a2 2)) := by rw [← hW]; simp [go_sem]
              have c1 : W.cell? ⟨w.heap.size + 1 + 1 + 1 + 1 + 1 + 1 + 1 + 1 + 1 + 1 + 1 + 1, 1, none⟩ = some (.int .u32 (addLC a3 2)) := by rw [← hW]; simp [go_sem]
              have c2 : W.cell? ⟨w.heap.size + 1 + 1 + 1, 0, none⟩ = some (.int .u32 a2) := by rw [← hW]; simp [go_sem]
              have c3 : W.cell? ⟨w.heap.size + 1 + 1 + 1, 1, none⟩ = some (.int .u32 a3) := by rw [← hW]; simp [go_sem]
              have hg : Grown w W := by rw [← hW]; go_grown
              clear hW
              go_region_held3 (fun w' => w'.cell? ⟨w.heap.size + 1 + 1 + 1 + 1 + 1 + 1 + 1 + 1 + 1 + 1 + 1 + 1, 0, none⟩ = some (.int .u32 (addOff a2 2)) ∧ w'.cell? ⟨w.heap.size + 1 + 1 + 1 + 1 + 1 + 1 + 1 + 1 + 1 + 1 + 1 + 1, 1, none⟩ = some (.int .u32 (addLC a3 2)) ∧ w'.cell? ⟨w.heap.size + 1 + 1 + 1, 0, none⟩ = some (.int .u32 a2) ∧ w'.cell? ⟨w.heap.size + 1 + 1 + 1, 1, none⟩ = some (.int .u32 a3) ∧ Grown w w') (refine ⟨?_, ?_, ?_, ?_, ?_⟩ <;> first | (simp [*, World.cell?_alloc_some]; done) | go_grown)
                (first | (go_at_call 22; first | ((with_reducible refine (line_any _ _ _ q2.1 q2.2).mono ?_); rintro e w' ⟨rfl, rfl⟩) | ((with_reducible refine (line_any _ _ _ b3.1 b3.2).mono ?_); rintro e w' ⟨rfl, rfl⟩)))
              go_wp2_with (first | (go_at_call 38; refine (offset_any _ _ _ q1.1 q1.2).mono ?_; rintro e w' ⟨rfl, rfl⟩) | go_in)
              go_ret
              exact ⟨ret_bool (by first | rfl | (simp; omega)), by go_grown⟩

/-! ### The row's step (frame) -/
set_option maxRecDepth 100000 in
theorem lifted (os : Os) (started : os.Started) (H : Type) (enc : TypeId × Value → H) :
    ReturnsInHanded {} Try.checked os 8 .any (Rows.fnIfClauseSpanOrderedSpec.pre6 enc Try.prog Try.f8 Rows.fnIfClauseSpanOrderedRow.domain false) (Rows.fnIfClauseSpanOrderedSpec.post enc Try.prog Try.f8 false true false false) := by
  refine returnsInHanded_of_change (C := Try.checked) own started (by kernel_rfl) Try.func8
    (ChangeSpec.witness6 (enc := enc) (C := Try.checked) false ⟨#[], #[.int .u32 0, .int .u32 0, .int .u32 0, .int .u32 0], []⟩ 8 (by kernel_rfl) (by kernel_rfl) (by kernel_rfl) (by kernel_rfl)) ?_
  intro W base args ds gs before hval0 hW hcnd _
  have hval : ∀ (j : Nat) t v, Try.f8.params[j]? = some t → args[j]? = some v → Value.okWide Try.prog W .any base t v := hval0
  have hW' := hW
  obtain ⟨p, q, hA0, hV, rfl, hfz, hnd⟩ := hW
  have hA : DataW.TrodAll enc Try.prog W 0 (fun _ => true) true Try.f8.params.toList args.toList ds p := hA0
  rw [Try.params8] at hA hval
  obtain ⟨v0, vs0, d0, ds0, p0, q0, hargs, rfl, rfl, h0, r0⟩ := trodAll_cons hA
  obtain ⟨v1, vs1, d1, ds1, p1, q1, rfl, rfl, rfl, h1, r1⟩ := trodAll_cons r0
  obtain ⟨v2, vs2, d2, ds2, p2, q2, rfl, rfl, rfl, h2, r2⟩ := trodAll_cons r1
  obtain ⟨v3, vs3, d3, ds3, p3, q3, rfl, rfl, rfl, h3, r3⟩ := trodAll_cons r2
  obtain ⟨rfl, rfl, rfl⟩ := trodAll_nil r3
  obtain rfl : args = #[v0, v1, v2, v3] := by cases args; simp_all
  obtain ⟨rfl, rfl⟩ := trodVars_none hV
  obtain ⟨a0, rfl, rfl, rfl, w0⟩ := open_int Try.underlying22 (hval 0 22 v0 rfl rfl) h0
  obtain ⟨a1, rfl, rfl, rfl, w1⟩ := open_int Try.underlying22 (hval 1 22 v1 rfl rfl) h1
  obtain ⟨a2, rfl, rfl, rfl, w2⟩ := open_int Try.underlying22 (hval 2 22 v2 rfl rfl) h2
  obtain ⟨a3, rfl, rfl, rfl, w3⟩ := open_int Try.underlying22 (hval 3 22 v3 rfl rfl) h3
  clear hA0 hval0
  simp only [List.append_nil] at hW'
  refine (walk a0 a1 a2 a3 w0 w1 w2 w3 W).mono fun e W' ⟨he, hg⟩ => ?_
  subst he
  exact ⟨_, rfl, post_of_same (pa := []) (pv := []) hW' (fun _ _ _ => (trodAll_cons_mk (shut_bool Try.underlying4 _) trodAll_mk0)) (fun sp _ => (trodAll_cons_mk (shut_int Try.underlying22 w0) (trodAll_cons_mk (shut_int Try.underlying22 w1) (trodAll_cons_mk (shut_int Try.underlying22 w2) (trodAll_cons_mk (shut_int Try.underlying22 w3) trodAll_mk0))))) (fun _ _ => rfl) rfl
    (hg.frame _) hg.2.1 (ok_one (by kernel_rfl) rfl (okWide_bool_mk Try.underlying4 _))⟩

theorem over : Rows.fnIfClauseSpanOrderedRow.holds Try.pinned (OpenSpec.ofChange Rows.fnIfClauseSpanOrderedSpec) :=
  OpenClaim.holds_of_wide 8 Try.f8 rfl rfl rfl rfl rfl rfl rfl ⟨rfl, rfl, rfl, rfl, rfl⟩ rfl rfl rfl rfl rfl (by kernel_rfl) Try.func8 (by kernel_rfl)
    (of_decide_eq_true (by kernel_rfl)) (by unfold Func.isWrapper; first | (rw [if_pos (by decide +kernel)]; kernel_rfl) | (rw [if_neg (by decide +kernel)]; exact ⟨rfl, rfl⟩))
    (fun os started H enc _ => lifted os started H enc)

/-- The statement. -/
theorem proved : Rows.FnIfClauseSpanOrderedSaid :=
  over
#print axioms proved
end Go.Proofs.Ytngbfadnmeohnaa.fnIfClauseSpanOrdered
