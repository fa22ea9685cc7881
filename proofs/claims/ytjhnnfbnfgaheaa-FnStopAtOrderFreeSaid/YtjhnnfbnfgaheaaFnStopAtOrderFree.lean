/-
  For every word, keep and maximum, FnStopAtOrderFree(word, keep, maximum) returns true. No conditions.
  The frame round the walk was written by a printer (mkframe.py), after the kit's own shells.
-/
import Derived.Test.YtjhnnfbnfgaheaaRows
import Derived.WalkKit
import Derived.ProofKit
import Derived.OpenShut
import Derived.Test.YtjhnnfbnfgaheaaNew
import Derived.OwnWalk
import Derived.ShutString
import Derived.ChangeOld
import Derived.Below
namespace Go.Proofs.Ytjhnnfbnfgaheaa.fnStopAtOrderFree
open Go.ChangeShapes Go.WideShapes Go.ChangeAt Go.RowKit
open Go.ChangeMaps (open_string shut_string)
set_option linter.unusedVariables false
open Go.Proofs.Ytjhnnfbnfgaheaa.stops

theorem own : ownKnob Try.prog.godebug = none := by kernel_rfl
theorem laidOut : laidOutB Try.prog = true := by kernel_rfl

theorem bytes_any (s : ByteArray) (k : Bool) (m : Int) (w : World) :
    Calls Try.prog 6 #[.string s, .bool k, .int .i64 m] w fun e w' => e = .returned (.bool (decide (s.size ≤ 1048576))) ∧ w = w' := by
  by_cases hs : s.size ≤ 1048576
  · rw [decide_eq_true hs]
    go_enter Try.func6, Try.ntmps6
    go_wp2
    go_ret
    exact ⟨rfl, rfl⟩
  · rw [decide_eq_false hs]
    go_enter Try.func6, Try.ntmps6
    go_wp2
    go_ret
    exact ⟨rfl, rfl⟩
set_option maxHeartbeats 4000000 in
theorem walk (a0 : ByteArray) (a1 : Bool) (a2 : Int) (w : World) (w0 : a0.size ≤ maxLen) (w2 : (Lit.int .i64 a2).wf = true) :
    Calls Try.prog 3 #[.string a0, .bool a1, .int .i64 a2] w fun e w' => e = .returned (.bool true) ∧ Below w.heap.size w w' := by
  have HB := bytes_any a0 a1 a2
  by_cases hs : a0.size ≤ 1048576
  · rw [decide_eq_true hs] at HB
    by_cases h4 : a0.size ≤ 4
    · go_enter Try.func3, Try.ntmps3
      go_wp2_with (go_at_call 6; refine (HB _).mono ?_; rintro e w' ⟨rfl, rfl⟩)
      refine (wordOK a0 h4 _).mono ?_
      rintro e w' ⟨⟨b, rfl, hb⟩, rfl⟩
      cases b
      · clear hb
        go_wp2
        go_ret
        exact ⟨rfl, Below.refl _ _⟩
      · have ok := hb rfl
        clear hb
        go_wp2_with fail
        refine (mk1 a0 a1 a2 ok _).mono ?_
        rintro e W1 ⟨p1, rfl, hp1, hb1⟩
        have hz1 := hb1.size
        go_wp2_with fail
        refine (mk2 a0 a1 a2 ok _).mono ?_
        rintro e W2 ⟨p2, rfl, hp2, hb2⟩
        have hz2 := hb2.size
        have hp3 := hp1.below hb2
        have hb3 := hb1.trans (hb2.mono hz1)
        clear hp1 hb1 hb2
        go_wp2_with fail
        refine (parserIs a0 a1 a2 p1 _ hp3 h4).mono ?_
        rintro e W3 ⟨rfl, hb4⟩
        have hp4 := hp2.below hb4
        have hb5 := hb3.trans (hb4.mono (by omega))
        have hz3 := hb4.size
        clear hp2 hp3 hb3 hb4
        go_wp2_with fail
        refine (parserIs a0 a1 a2 p2 _ hp4 h4).mono ?_
        rintro e W4 ⟨rfl, hb6⟩
        have hb7 := hb5.trans (hb6.mono (by omega))
        clear hp4 hb5 hb6
        go_wp2
        go_ret
        exact ⟨rfl, hb7⟩
    · go_enter Try.func3, Try.ntmps3
      go_wp2_with (go_at_call 6; refine (HB _).mono ?_; rintro e w' ⟨rfl, rfl⟩)
      go_ret
      exact ⟨rfl, Below.refl _ _⟩
  · rw [decide_eq_false hs] at HB
    go_enter Try.func3, Try.ntmps3
    go_wp2_with (go_at_call 6; refine (HB _).mono ?_; rintro e w' ⟨rfl, rfl⟩)
    go_ret
    exact ⟨rfl, Below.refl _ _⟩

/-! ### The row's step (frame) -/
set_option maxRecDepth 100000 in
theorem lifted (os : Os) (started : os.Started) (H : Type) (enc : TypeId × Value → H) :
    ReturnsInHanded {} Try.checked os 3 .any (Rows.fnStopAtOrderFreeSpec.pre6 enc Try.prog Try.f3 Rows.fnStopAtOrderFreeRow.domain false) (Rows.fnStopAtOrderFreeSpec.post enc Try.prog Try.f3 false true false false) := by
  refine returnsInHanded_of_change (C := Try.checked) own started (by kernel_rfl) Try.func3
    (ChangeSpec.witness6 (enc := enc) (C := Try.checked) false ⟨#[], #[.string ByteArray.empty, .bool false, .int .i64 0], []⟩ 8 (by kernel_rfl) (by kernel_rfl) (by kernel_rfl) (by kernel_rfl)) ?_
  intro W base args ds gs before hval0 hW hcnd _
  have hval : ∀ (j : Nat) t v, Try.f3.params[j]? = some t → args[j]? = some v → Value.okWide Try.prog W .any base t v := hval0
  have hW' := hW
  obtain ⟨p, q, hA0, hV, rfl, hfz, hnd⟩ := hW
  have hA : DataW.TrodAll enc Try.prog W 0 (fun _ => true) true Try.f3.params.toList args.toList ds p := hA0
  rw [Try.params3] at hA hval
  obtain ⟨v0, vs0, d0, ds0, p0, q0, hargs, rfl, rfl, h0, r0⟩ := trodAll_cons hA
  obtain ⟨v1, vs1, d1, ds1, p1, q1, rfl, rfl, rfl, h1, r1⟩ := trodAll_cons r0
  obtain ⟨v2, vs2, d2, ds2, p2, q2, rfl, rfl, rfl, h2, r2⟩ := trodAll_cons r1
  obtain ⟨rfl, rfl, rfl⟩ := trodAll_nil r2
  obtain rfl : args = #[v0, v1, v2] := by cases args; simp_all
  obtain ⟨rfl, rfl⟩ := trodVars_none hV
  obtain ⟨a0, rfl, rfl, rfl, w0⟩ := open_string Try.underlying9 (hval 0 9 v0 rfl rfl) h0
  obtain ⟨a1, rfl, rfl, rfl⟩ := open_bool Try.underlying4 (hval 1 4 v1 rfl rfl) h1
  obtain ⟨a2, rfl, rfl, rfl, w2⟩ := open_int Try.underlying3 (hval 2 3 v2 rfl rfl) h2
  clear hA0 hval0
  refine (walk a0 a1 a2 W w0 w2).mono fun e W' ⟨he, bel⟩ => ?_
  subst he
  exact ⟨_, rfl, _, _, _, [], _, [], hW', trodAll_mk1 (shut_bool Try.underlying4 _), (trodAll_cons_mk (shut_string Try.underlying9 w0) (trodAll_cons_mk (shut_bool Try.underlying4 _) (trodAll_cons_mk (shut_int Try.underlying3 w2) trodAll_mk0))), rfl, bel.frame _, fun h => by cases h⟩

theorem over : Rows.fnStopAtOrderFreeRow.holds Try.pinned (OpenSpec.ofChange Rows.fnStopAtOrderFreeSpec) :=
  OpenClaim.holds_of_wide 3 Try.f3 rfl rfl rfl rfl rfl rfl rfl ⟨rfl, rfl, rfl, rfl, rfl⟩ rfl rfl rfl rfl rfl (by kernel_rfl) Try.func3 (by kernel_rfl)
    (of_decide_eq_true (by kernel_rfl)) (by unfold Func.isWrapper; first | (rw [if_pos (by decide +kernel)]; kernel_rfl) | (rw [if_neg (by decide +kernel)]; exact ⟨rfl, rfl⟩))
    (fun os started H enc _ => lifted os started H enc)

/-- The statement. -/
theorem proved : Rows.FnStopAtOrderFreeSaid := over
#print axioms proved
end Go.Proofs.Ytjhnnfbnfgaheaa.fnStopAtOrderFree
