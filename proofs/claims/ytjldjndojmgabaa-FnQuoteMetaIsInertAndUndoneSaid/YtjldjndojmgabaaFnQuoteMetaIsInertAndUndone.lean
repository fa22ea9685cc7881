/-
  For every text s and every mode, FnQuoteMetaIsInertAndUndone(s, mode) returns true. No conditions.
  The frame round the walk was written by a printer (mkframe.py), after the kit's own shells.
-/
import Derived.Test.YtjldjndojmgabaaRows
import Derived.WalkKit
import Derived.ProofKit
import Derived.OpenShut
import Derived.Test.YtjldjndojmgabaaMeta
import Derived.Test.YtjldjndojmgabaaOwn
import Derived.Test.YtjldjndojmgabaaQuote
import Derived.Test.YtjldjndojmgabaaUnq
import Derived.Test.YtjldjndojmgabaaVal
import Derived.OwnWalk
import Derived.ShutString
import Derived.ChangeOld
import Derived.Below
namespace Go.Proofs.Ytjldjndojmgabaa.fnQuoteMetaIsInertAndUndone
open Go.ChangeShapes Go.WideShapes Go.ChangeAt Go.RowKit
open Go.ChangeMaps (open_string shut_string)
set_option linter.unusedVariables false
open Go.Proofs.Ytjldjndojmgabaa.plain
open Go.Proofs.Ytjldjndojmgabaa.own
open Go.Proofs.Ytjldjndojmgabaa.metas
open Go.Proofs.Ytjldjndojmgabaa.quote
open Go.Proofs.Ytjldjndojmgabaa.unqs
open Go.Proofs.Ytjldjndojmgabaa.vals

theorem own : ownKnob Try.prog.godebug = none := by kernel_rfl
theorem laidOut : laidOutB Try.prog = true := by kernel_rfl

theorem meta_no (s : ByteArray) (m : Int) (w : World) (hs : s.size ≤ 1048576) :
    Calls Try.prog 6 #[.string (quoteB s), .int .u64 m] w fun e w' => e = .returned (.bool false) ∧ w = w' := by
  have h := hasMeta_any (quoteB s) m w (by have := quoteB_size s; omega)
  rw [quoteB_run s] at h
  exact h
theorem bytes_yes (s : ByteArray) (m : Int) (w : World) (hs : s.size ≤ 1048576) :
    Calls Try.prog 4 #[.string s, .int .u64 m] w fun e w' => e = .returned (.bool true) ∧ w = w' := by
  go_enter Try.func4, Try.ntmps4
  go_wp2
  go_ret
  exact ⟨rfl, rfl⟩
theorem bytes_no (s : ByteArray) (m : Int) (w : World) (hs : 1048576 < s.size) :
    Calls Try.prog 4 #[.string s, .int .u64 m] w fun e w' => e = .returned (.bool false) ∧ w = w' := by
  go_enter Try.func4, Try.ntmps4
  go_wp2
  go_ret
  exact ⟨rfl, rfl⟩
set_option maxHeartbeats 4000000 in
theorem walk (a0 : ByteArray) (a1 : Int) (w : World) (w0 : a0.size ≤ maxLen) (w1 : (Lit.int .u64 a1).wf = true) :
    Calls Try.prog 3 #[.string a0, .int .u64 a1] w fun e w' => e = .returned (.bool true) ∧ Below w.heap.size w w' := by
  by_cases hs : a0.size ≤ 1048576
  · have hq := quoteB_size a0
    have hu := quoteB_unq a0
    go_enter Try.func3, Try.ntmps3
    go_wp2_with (first | (go_at_call 4; refine (bytes_yes _ _ _ hs).mono ?_; rintro e w' ⟨rfl, rfl⟩) | (go_at_call 5; refine (quoteMeta_any _ _ (by omega) _).mono ?_; rintro e W1 ⟨rfl, hb1⟩))
    have hz1 := hb1.size
    refine (meta_no a0 _ _ hs).mono ?_
    rintro e w' ⟨rfl, rfl⟩
    go_wp2_with (go_at_call 6; refine (meta_no a0 _ _ hs).mono ?_; rintro e w' ⟨rfl, rfl⟩)
    refine (quoteMeta_any _ _ (by omega) _).mono ?_
    rintro e W2 ⟨rfl, hb2⟩
    have hz2 := hb2.size
    have hb3 := hb1.trans (hb2.mono (by omega))
    clear hb1 hb2
    go_wp2_with fail
    refine (valid_any a0 (by omega) _).mono ?_
    rintro e w' ⟨⟨b, rfl, hv⟩, rfl⟩
    cases b
    · go_wp2
      go_ret
      exact ⟨rfl, hb3⟩
    · have hq2 := hu (hv rfl)
      have hq3 : (⟨(unq (quoteB a0).data.toList).toArray⟩ : ByteArray) = a0 := by rw [hq2]
      clear hu hv hq2
      go_wp2_with fail
      refine (unquote_any (quoteB a0) (by omega) _).mono ?_
      rintro e W3 ⟨rfl, hb4⟩
      have hb5 := hb3.trans (hb4.mono (by omega))
      clear hb3 hb4
      rw [hq3]
      go_wp2
      go_ret
      exact ⟨rfl, hb5⟩
  · go_enter Try.func3, Try.ntmps3
    go_wp2_with (go_at_call 4; refine (bytes_no _ _ _ (by omega)).mono ?_; rintro e w' ⟨rfl, rfl⟩)
    go_ret
    exact ⟨rfl, Below.refl _ _⟩

/-! ### The row's step (frame) -/
set_option maxRecDepth 100000 in
theorem lifted (os : Os) (started : os.Started) (H : Type) (enc : TypeId × Value → H) :
    ReturnsInHanded {} Try.checked os 3 .any (Rows.fnQuoteMetaIsInertAndUndoneSpec.pre6 enc Try.prog Try.f3 Rows.fnQuoteMetaIsInertAndUndoneRow.domain false) (Rows.fnQuoteMetaIsInertAndUndoneSpec.post enc Try.prog Try.f3 false true false false) := by
  refine returnsInHanded_of_change (C := Try.checked) own started (by kernel_rfl) Try.func3
    (ChangeSpec.witness6 (enc := enc) (C := Try.checked) false ⟨#[], #[.string ByteArray.empty, .int .u64 0], []⟩ 8 (by kernel_rfl) (by kernel_rfl) (by kernel_rfl) (by kernel_rfl)) ?_
  intro W base args ds gs before hval0 hW hcnd _
  have hval : ∀ (j : Nat) t v, Try.f3.params[j]? = some t → args[j]? = some v → Value.okWide Try.prog W .any base t v := hval0
  have hW' := hW
  obtain ⟨p, q, hA0, hV, rfl, hfz, hnd⟩ := hW
  have hA : DataW.TrodAll enc Try.prog W 0 (fun _ => true) true Try.f3.params.toList args.toList ds p := hA0
  rw [Try.params3] at hA hval
  obtain ⟨v0, vs0, d0, ds0, p0, q0, hargs, rfl, rfl, h0, r0⟩ := trodAll_cons hA
  obtain ⟨v1, vs1, d1, ds1, p1, q1, rfl, rfl, rfl, h1, r1⟩ := trodAll_cons r0
  obtain ⟨rfl, rfl, rfl⟩ := trodAll_nil r1
  obtain rfl : args = #[v0, v1] := by cases args; simp_all
  obtain ⟨rfl, rfl⟩ := trodVars_none hV
  obtain ⟨a0, rfl, rfl, rfl, w0⟩ := open_string Try.underlying9 (hval 0 9 v0 rfl rfl) h0
  obtain ⟨a1, rfl, rfl, rfl, w1⟩ := open_int Try.underlying22 (hval 1 22 v1 rfl rfl) h1
  clear hA0 hval0
  refine (walk a0 a1 W w0 w1).mono fun e W' ⟨he, bel⟩ => ?_
  subst he
  exact ⟨_, rfl, _, _, _, [], _, [], hW', trodAll_mk1 (shut_bool Try.underlying4 _), (trodAll_cons_mk (shut_string Try.underlying9 w0) (trodAll_cons_mk (shut_int Try.underlying22 w1) trodAll_mk0)), rfl, bel.frame _, fun h => by cases h⟩

theorem over : Rows.fnQuoteMetaIsInertAndUndoneRow.holds Try.pinned (OpenSpec.ofChange Rows.fnQuoteMetaIsInertAndUndoneSpec) :=
  OpenClaim.holds_of_wide 3 Try.f3 rfl rfl rfl rfl rfl rfl rfl ⟨rfl, rfl, rfl, rfl, rfl⟩ rfl rfl rfl rfl rfl (by kernel_rfl) Try.func3 (by kernel_rfl)
    (of_decide_eq_true (by kernel_rfl)) (by unfold Func.isWrapper; first | (rw [if_pos (by decide +kernel)]; kernel_rfl) | (rw [if_neg (by decide +kernel)]; exact ⟨rfl, rfl⟩))
    (fun os started H enc _ => lifted os started H enc)

/-- The statement. -/
theorem proved : Rows.FnQuoteMetaIsInertAndUndoneSaid := over
#print axioms proved
end Go.Proofs.Ytjldjndojmgabaa.fnQuoteMetaIsInertAndUndone
