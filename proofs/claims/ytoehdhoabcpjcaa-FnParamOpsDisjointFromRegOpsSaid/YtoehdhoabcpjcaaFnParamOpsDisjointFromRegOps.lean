/-
  For every rune r, FnParamOpsDisjointFromRegOps(r) returns true. No conditions.
  The frame round the walk was written by the kit's proof-skeleton.
-/
import Derived.Test.YtoehdhoabcpjcaaRows
import Derived.WalkKit
import Derived.ProofKit
import Derived.OpenShut
namespace Go.Proofs.Ytoehdhoabcpjcaa.fnParamOpsDisjointFromRegOps
open Go.ChangeShapes Go.WideShapes Go.ChangeAt Go.RowKit
set_option linter.unusedVariables false


theorem own : ownKnob Try.prog.godebug = none := by kernel_rfl


/-! ### The walk -/
theorem walk (a0 : Int) (w0 : (Lit.int .i32 a0).wf = true) (w : World) :
    Calls Try.prog 8 #[.int .i32 a0] w fun e w' => e = .returned (.bool true) ∧ Grown w w' := by
  by_cases h : a0 = 125 ∨ a0 = 35 ∨ a0 = 33 ∨ a0 = 58 ∨ a0 = 45 ∨ a0 = 43 ∨ a0 = 61 ∨ a0 = 63 ∨ a0 = 37 ∨ a0 = 91 ∨ a0 = 93 ∨ a0 = 47 ∨ a0 = 94 ∨ a0 = 44 ∨ a0 = 64 ∨ a0 = 42
  · rcases h with rfl | rfl | rfl | rfl | rfl | rfl | rfl | rfl | rfl | rfl | rfl | rfl | rfl | rfl | rfl | rfl
    all_goals
      go_enter Try.func8, Try.ntmps8
      go_wp2
      go_ret
      exact ⟨rfl, Grown.refl _⟩
  · simp only [not_or] at h
    obtain ⟨h0, h1, h2, h3, h4, h5, h6, h7, h8, h9, h10, h11, h12, h13, h14, h15⟩ := h
    have e0 : (a0 == 125) = false := by simpa using h0
    have e1 : (a0 == 35) = false := by simpa using h1
    have e2 : (a0 == 33) = false := by simpa using h2
    have e3 : (a0 == 58) = false := by simpa using h3
    have e4 : (a0 == 45) = false := by simpa using h4
    have e5 : (a0 == 43) = false := by simpa using h5
    have e6 : (a0 == 61) = false := by simpa using h6
    have e7 : (a0 == 63) = false := by simpa using h7
    have e8 : (a0 == 37) = false := by simpa using h8
    have e9 : (a0 == 91) = false := by simpa using h9
    have e10 : (a0 == 93) = false := by simpa using h10
    have e11 : (a0 == 47) = false := by simpa using h11
    have e12 : (a0 == 94) = false := by simpa using h12
    have e13 : (a0 == 44) = false := by simpa using h13
    have e14 : (a0 == 64) = false := by simpa using h14
    have e15 : (a0 == 42) = false := by simpa using h15
    clear h0 h1 h2 h3 h4 h5 h6 h7 h8 h9 h10 h11 h12 h13 h14 h15
    go_enter Try.func8, Try.ntmps8
    go_wp2
    go_ret
    exact ⟨rfl, Grown.refl _⟩

/-! ### The row's step (frame) -/
set_option maxRecDepth 100000 in
theorem lifted (os : Os) (started : os.Started) (H : Type) (enc : TypeId × Value → H) :
    ReturnsInHanded {} Try.checked os 8 .any (Rows.fnParamOpsDisjointFromRegOpsSpec.pre6 enc Try.prog Try.f8 Rows.fnParamOpsDisjointFromRegOpsRow.domain false) (Rows.fnParamOpsDisjointFromRegOpsSpec.post enc Try.prog Try.f8 false true false false) := by
  refine returnsInHanded_of_change (C := Try.checked) own started (by kernel_rfl) Try.func8
    (ChangeSpec.witness6 (enc := enc) (C := Try.checked) false ⟨#[], #[.int .i32 0], []⟩ 8 (by kernel_rfl) (by kernel_rfl) (by kernel_rfl) (by kernel_rfl)) ?_
  intro W base args ds gs before hval0 hW hcnd _
  have hval : ∀ (j : Nat) t v, Try.f8.params[j]? = some t → args[j]? = some v → Value.okWide Try.prog W .any base t v := hval0
  have hW' := hW
  obtain ⟨p, q, hA0, hV, rfl, hfz, hnd⟩ := hW
  have hA : DataW.TrodAll enc Try.prog W 0 (fun _ => true) true Try.f8.params.toList args.toList ds p := hA0
  rw [Try.params8] at hA hval
  obtain ⟨v0, vs0, d0, ds0, p0, q0, hargs, rfl, rfl, h0, r0⟩ := trodAll_cons hA
  obtain ⟨rfl, rfl, rfl⟩ := trodAll_nil r0
  obtain rfl : args = #[v0] := by cases args; simp_all
  obtain ⟨rfl, rfl⟩ := trodVars_none hV
  obtain ⟨a0, rfl, rfl, rfl, w0⟩ := open_int Try.underlying21 (hval 0 21 v0 rfl rfl) h0
  clear hA0 hval0
  simp only [List.append_nil] at hW'
  refine (walk a0 w0 W).mono fun e W' ⟨he, hg⟩ => ?_
  subst he
  exact ⟨_, rfl, post_of_same (pa := []) (pv := []) hW' (fun _ _ _ => (trodAll_cons_mk (shut_bool Try.underlying4 _) trodAll_mk0)) (fun sp _ => (trodAll_cons_mk (shut_int Try.underlying21 w0) trodAll_mk0)) (fun _ _ => rfl) rfl
    (hg.frame _) hg.2.1 (ok_one (by kernel_rfl) rfl (okWide_bool_mk Try.underlying4 _))⟩

theorem over : Rows.fnParamOpsDisjointFromRegOpsRow.holds Try.pinned (OpenSpec.ofChange Rows.fnParamOpsDisjointFromRegOpsSpec) :=
  OpenClaim.holds_of_wide 8 Try.f8 rfl rfl rfl rfl rfl rfl rfl ⟨rfl, rfl, rfl, rfl, rfl⟩ rfl rfl rfl rfl rfl (by kernel_rfl) Try.func8 (by kernel_rfl)
    (of_decide_eq_true (by kernel_rfl)) (by unfold Func.isWrapper; first | (rw [if_pos (by decide +kernel)]; kernel_rfl) | (rw [if_neg (by decide +kernel)]; exact ⟨rfl, rfl⟩))
    (fun os started H enc _ => lifted os started H enc)

/-- The statement. -/
theorem proved : Rows.FnParamOpsDisjointFromRegOpsSaid :=
  over
#print axioms proved
end Go.Proofs.Ytoehdhoabcpjcaa.fnParamOpsDisjointFromRegOps
