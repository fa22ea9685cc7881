/-
  For every rune r, FnRegOpsPrintablePunctuation(r) returns true. No conditions.
  The frame round the walk was written by the kit's proof-skeleton.
-/
import Derived.Test.YtoehdhoabcpjcaaRows
import Derived.WalkKit
import Derived.ProofKit
import Derived.OpenShut
namespace Go.Proofs.Ytoehdhoabcpjcaa.fnRegOpsPrintablePunctuation
open Go.ChangeShapes Go.WideShapes Go.ChangeAt Go.RowKit
set_option linter.unusedVariables false


theorem own : ownKnob Try.prog.godebug = none := by kernel_rfl


/-! ### The walk -/
theorem walk (a0 : Int) (w0 : (Lit.int .i32 a0).wf = true) (w : World) :
    Calls Try.prog 9 #[.int .i32 a0] w fun e w' => e = .returned (.bool true) ∧ Grown w w' := by
  by_cases h : a0 = 59 ∨ a0 = 34 ∨ a0 = 39 ∨ a0 = 40 ∨ a0 = 41 ∨ a0 = 36 ∨ a0 = 124 ∨ a0 = 38 ∨ a0 = 62 ∨ a0 = 60 ∨ a0 = 96
  · rcases h with rfl | rfl | rfl | rfl | rfl | rfl | rfl | rfl | rfl | rfl | rfl
    all_goals
      go_enter Try.func9, Try.ntmps9
      go_wp2
      go_ret
      exact ⟨rfl, Grown.refl _⟩
  · simp only [not_or] at h
    obtain ⟨h0, h1, h2, h3, h4, h5, h6, h7, h8, h9, h10⟩ := h
    have e0 : (a0 == 59) = false := by simpa using h0
    have e1 : (a0 == 34) = false := by simpa using h1
    have e2 : (a0 == 39) = false := by simpa using h2
    have e3 : (a0 == 40) = false := by simpa using h3
    have e4 : (a0 == 41) = false := by simpa using h4
    have e5 : (a0 == 36) = false := by simpa using h5
    have e6 : (a0 == 124) = false := by simpa using h6
    have e7 : (a0 == 38) = false := by simpa using h7
    have e8 : (a0 == 62) = false := by simpa using h8
    have e9 : (a0 == 60) = false := by simpa using h9
    have e10 : (a0 == 96) = false := by simpa using h10
    clear h0 h1 h2 h3 h4 h5 h6 h7 h8 h9 h10
    go_enter Try.func9, Try.ntmps9
    go_wp2
    go_ret
    exact ⟨rfl, Grown.refl _⟩

/-! ### The row's step (frame) -/
set_option maxRecDepth 100000 in
theorem lifted (os : Os) (started : os.Started) (H : Type) (enc : TypeId × Value → H) :
    ReturnsInHanded {} Try.checked os 9 .any (Rows.fnRegOpsPrintablePunctuationSpec.pre6 enc Try.prog Try.f9 Rows.fnRegOpsPrintablePunctuationRow.domain false) (Rows.fnRegOpsPrintablePunctuationSpec.post enc Try.prog Try.f9 false true false false) := by
  refine returnsInHanded_of_change (C := Try.checked) own started (by kernel_rfl) Try.func9
    (ChangeSpec.witness6 (enc := enc) (C := Try.checked) false ⟨#[], #[.int .i32 0], []⟩ 8 (by kernel_rfl) (by kernel_rfl) (by kernel_rfl) (by kernel_rfl)) ?_
  intro W base args ds gs before hval0 hW hcnd _
  have hval : ∀ (j : Nat) t v, Try.f9.params[j]? = some t → args[j]? = some v → Value.okWide Try.prog W .any base t v := hval0
  have hW' := hW
  obtain ⟨p, q, hA0, hV, rfl, hfz, hnd⟩ := hW
  have hA : DataW.TrodAll enc Try.prog W 0 (fun _ => true) true Try.f9.params.toList args.toList ds p := hA0
  rw [Try.params9] at hA hval
  obtain ⟨v0, vs0, d0, ds0, p0, q0, hargs, rfl, rfl, h0, r0⟩ := trodAll_cons hA
  obtain ⟨rfl, rfl, rfl⟩ := trodAll_nil r0
  obtain rfl : args = #[v0] := by cases args; simp_all
  obtain ⟨rfl, rfl⟩ := trodVars_none hV
  obtain ⟨a0, rfl, rfl, rfl, w0⟩ := open_int Try.underlying21 (hval 0 21 v0 rfl rfl) h0
  clear hA0 hval0
  simp only [List.append_nil] at hW'
  refine (walk a0 w0 W).mono fun e W' ⟨he, hg⟩ => ?_
  subst he
  exact ⟨_, rfl, post_of_same (pa := []) (pv := []) hW' (fun _ _ _ => (trodAll_cons_mk (shut_bool Try.underlying4 _) trodAll_mk0)) (fun sp _ => (trodAll_cons_mk (shut_int Try.underlying21 w0) trodAll_mk0)) (fun _ _ => rfl) rfl
    (hg.frame _) hg.2.1 (ok_one (by kernel_rfl) rfl (okWide_bool_mk Try.underlying4 _))⟩

theorem over : Rows.fnRegOpsPrintablePunctuationRow.holds Try.pinned (OpenSpec.ofChange Rows.fnRegOpsPrintablePunctuationSpec) :=
  OpenClaim.holds_of_wide 9 Try.f9 rfl rfl rfl rfl rfl rfl rfl ⟨rfl, rfl, rfl, rfl, rfl⟩ rfl rfl rfl rfl rfl (by kernel_rfl) Try.func9 (by kernel_rfl)
    (of_decide_eq_true (by kernel_rfl)) (by unfold Func.isWrapper; first | (rw [if_pos (by decide +kernel)]; kernel_rfl) | (rw [if_neg (by decide +kernel)]; exact ⟨rfl, rfl⟩))
    (fun os started H enc _ => lifted os started H enc)

/-- The statement. -/
theorem proved : Rows.FnRegOpsPrintablePunctuationSaid :=
  over
#print axioms proved
end Go.Proofs.Ytoehdhoabcpjcaa.fnRegOpsPrintablePunctuation
