/-
  For every Variable (Map nil) and every kind byte, FnDeclaredIgnoresValueAndGrowsWithAttributes returns true. No conditions.
  The frame round the walk was written by a printer (mkframe.py), after the kit's own shells.
-/
import Derived.Test.YtljbaachfbcbbaaRows
import Derived.WalkKit
import Derived.ProofKit
import Derived.OpenShut
import Derived.SliceStrings
import Derived.Test.YtljbaachfbcbbaaMk
import Derived.ShutString
import Derived.ChangeOld
import Derived.Below
namespace Go.Proofs.Ytljbaachfbcbbaa.fnDeclaredIgnoresValueAndGrowsWithAttributes
open Go.ChangeShapes Go.WideShapes Go.ChangeAt Go.RowKit
open Go.ChangeMaps (open_string shut_string)
set_option linter.unusedVariables false
open Go.Proofs.Ytljbaachfbcbbaa.own
open Go.Proofs.Ytljbaachfbcbbaa.vars

theorem own : ownKnob Try.prog.godebug = none := by kernel_rfl
theorem laidOut : laidOutB Try.prog = true := by kernel_rfl

-- Strs IsRow
set_option maxHeartbeats 1000000 in
theorem walk (a0 : Bool) (a1 : Bool) (a2 : Bool) (a3 : Bool) (a4 : Int) (a5 : ByteArray) (a6 : Option Addr) (len6 cap6 : Nat) (z6 : List ByteArray) (a7 : Option Addr) (len7 cap7 : Nat) (z7 : List Int) (a8 : Int) (w : World) (w4 : (Lit.int .u8 a4).wf = true) (w5 : a5.size ≤ maxLen) (w6 : IsStrs w a6 len6 cap6 z6) (w7 : IsRow .i64 w a7 len7 cap7 z7) (w8 : (Lit.int .u8 a8).wf = true) :
    Calls Try.prog 6 #[.bool a0, .bool a1, .bool a2, .bool a3, .int .u8 a4, .string a5, .slice a6 len6 cap6, .slice a7 len7 cap7, .int .u8 a8] w fun e w' => e = .returned (.bool true) ∧ Below w.heap.size w w' := by
  obtain ⟨s6, m6, z6'⟩ := w6.sr
  obtain ⟨s7, m7, z7'⟩ := w7.ir
  have S6 := Lib.hid s6
  have S7 := Lib.hid s7
  have Z6 := Lib.hid z6'
  have Z7 := Lib.hid z7'
  clear s6 s7 z6' z7' w6 w7 w4 w8
  go_enter Try.func6, Try.ntmps6
  go_wp2_with fail
  refine (zz21 _ _ _ _ _ _ _ _ _ _ _ _ _ _ _ w5 m7 m6 S6.out).mono ?_
  rintro e w' ⟨b, _, rfl, rfl⟩
  cases b
  · go_wp2_with fail
    go_ret
    exact ⟨rfl, Below.refl _ _⟩
  go_wp2_with fail
  refine (tooBig _ _ _ _ _ _ _ _ _ w5 m7 m6 S6.out).mono ?_
  rintro e w' ⟨b, hlim, rfl, rfl⟩
  cases b
  rotate_left
  · go_wp2_with fail
    go_ret
    exact ⟨rfl, Below.refl _ _⟩
  obtain ⟨l6, l7⟩ := hlim rfl
  clear hlim
  go_wp2_with fail
  refine (cloneS_cp _ _ _ _ _ l6 Z6.out S6.out).mono ?_
  rintro e w1 ⟨a', c', rfl, hb1⟩
  go_wp2_with fail
  refine (cloneI_cp _ _ _ _ _ l7 Z7.out (S7.out.keep hb1)).mono ?_
  rintro e w2 ⟨a'', c'', rfl, hb2⟩
  have H2 := Lib.hid (hb1.trans (hb2.mono hb1.size))
  clear hb1 hb2
  go_wp2_with fail
  refine (mkVar_any _ _ _ _ _ _ _ _ _ _ _ _ _).mono ?_
  rintro e w3 ⟨rfl, hb⟩
  have H3 := Lib.hid (H2.out.trans (hb.mono H2.out.size))
  clear hb
  go_wp2_with fail
  refine (declared_any _ _ _ _ _ _ _ _ _).mono ?_
  rintro e w4 ⟨rfl, hb⟩
  have H4 := Lib.hid (H3.out.trans (hb.mono H3.out.size))
  clear hb
  go_wp2_with fail
  refine (mkVar_any _ _ _ _ _ _ _ _ _ _ _ _ _).mono ?_
  rintro e w5 ⟨rfl, hb⟩
  have H5 := Lib.hid (H4.out.trans (hb.mono H4.out.size))
  clear hb
  go_wp2_with fail
  refine (declared_any _ _ _ _ _ _ _ _ _).mono ?_
  rintro e w6 ⟨rfl, hb⟩
  have H6 := Lib.hid (H5.out.trans (hb.mono H5.out.size))
  clear hb
  generalize decl a0 a1 a2 a3 a4 = dd
  go_wp2_with fail
  refine (mkVar_any _ _ _ _ _ _ _ _ _ _ _ _ _).mono ?_
  rintro e w7 ⟨rfl, hb⟩
  have H7 := Lib.hid (H6.out.trans (hb.mono H6.out.size))
  clear hb
  go_wp2_with fail
  refine (declared_any _ _ _ _ _ _ _ _ _).mono ?_
  rintro e w8 ⟨rfl, hb⟩
  have H8 := Lib.hid (H7.out.trans (hb.mono H7.out.size))
  clear hb
  rw [show decl true a1 a2 a3 a4 = true by simp [decl]]
  go_wp2_with fail
  refine (mkVar_any _ _ _ _ _ _ _ _ _ _ _ _ _).mono ?_
  rintro e w9 ⟨rfl, hb⟩
  have H9 := Lib.hid (H8.out.trans (hb.mono H8.out.size))
  clear hb
  go_wp2_with fail
  refine (declared_any _ _ _ _ _ _ _ _ _).mono ?_
  rintro e w10 ⟨rfl, hb⟩
  have H10 := Lib.hid (H9.out.trans (hb.mono H9.out.size))
  clear hb
  rw [show decl a0 true a2 a3 a4 = true by simp [decl]]
  go_wp2_with fail
  refine (mkVar_any _ _ _ _ _ _ _ _ _ _ _ _ _).mono ?_
  rintro e w11 ⟨rfl, hb⟩
  have H11 := Lib.hid (H10.out.trans (hb.mono H10.out.size))
  clear hb
  go_wp2_with fail
  refine (declared_any _ _ _ _ _ _ _ _ _).mono ?_
  rintro e w12 ⟨rfl, hb⟩
  have H12 := Lib.hid (H11.out.trans (hb.mono H11.out.size))
  clear hb
  rw [show decl a0 a1 true a3 a4 = true by simp [decl]]
  go_wp2_with fail
  refine (mkVar_any _ _ _ _ _ _ _ _ _ _ _ _ _).mono ?_
  rintro e w13 ⟨rfl, hb⟩
  have H13 := Lib.hid (H12.out.trans (hb.mono H12.out.size))
  clear hb
  go_wp2_with fail
  refine (declared_any _ _ _ _ _ _ _ _ _).mono ?_
  rintro e w14 ⟨rfl, hb⟩
  have H14 := Lib.hid (H13.out.trans (hb.mono H13.out.size))
  clear hb
  rw [show decl a0 a1 a2 true a4 = true by simp [decl]]
  by_cases h8 : a8 = 0
  · have e8 : (a8 == 0) = true := by simp [h8]
    clear h8
    go_wp2_with fail
    go_ret
    exact ⟨rfl, H14.out⟩
  have e8 : (a8 == 0) = false := by simp [h8]
  have E8 := Lib.hid h8
  clear h8
  go_wp2_with fail
  refine (mkVar_any _ _ _ _ _ _ _ _ _ _ _ _ _).mono ?_
  rintro e w15 ⟨rfl, hb⟩
  have H15 := Lib.hid (H14.out.trans (hb.mono H14.out.size))
  clear hb
  go_wp2_with fail
  refine (declared_any _ _ _ _ _ _ _ _ _).mono ?_
  rintro e w16 ⟨rfl, hb⟩
  have H16 := Lib.hid (H15.out.trans (hb.mono H15.out.size))
  clear hb
  rw [show decl false false false false a8 = true by simp [decl]; exact E8.out]
  go_wp2_with fail
  refine (mkVar_any _ _ _ _ _ _ _ _ _ _ _ _ _).mono ?_
  rintro e w17 ⟨rfl, hb⟩
  have H17 := Lib.hid (H16.out.trans (hb.mono H16.out.size))
  clear hb
  go_wp2_with fail
  refine (declared_any _ _ _ _ _ _ _ _ _).mono ?_
  rintro e w18 ⟨rfl, hb⟩
  have H18 := Lib.hid (H17.out.trans (hb.mono H17.out.size))
  clear hb
  rw [show decl a0 a1 a2 a3 a8 = true by simp [decl, E8.out]]
  go_wp2_with fail
  go_ret
  exact ⟨rfl, H18.out⟩

/-! ### The row's step (frame) -/
set_option maxRecDepth 100000 in
theorem lifted (os : Os) (started : os.Started) (H : Type) (enc : TypeId × Value → H) :
    ReturnsInHanded {} Try.checked os 6 .any (Rows.fnDeclaredIgnoresValueAndGrowsWithAttributesSpec.pre6 enc Try.prog Try.f6 Rows.fnDeclaredIgnoresValueAndGrowsWithAttributesRow.domain false) (Rows.fnDeclaredIgnoresValueAndGrowsWithAttributesSpec.post enc Try.prog Try.f6 false true false false) := by
  refine returnsInHanded_of_change (C := Try.checked) own started (by kernel_rfl) Try.func6
    (ChangeSpec.witness6 (enc := enc) (C := Try.checked) false ⟨#[], #[.bool false, .bool false, .bool false, .bool false, .int .u8 0, .string ByteArray.empty, .slice none 0 0, .slice none 0 0, .int .u8 0], []⟩ 8 (by kernel_rfl) (by kernel_rfl) (by kernel_rfl) (by kernel_rfl)) ?_
  intro W base args ds gs before hval0 hW hcnd _
  have hval : ∀ (j : Nat) t v, Try.f6.params[j]? = some t → args[j]? = some v → Value.okWide Try.prog W .any base t v := hval0
  have hW' := hW
  obtain ⟨p, q, hA0, hV, rfl, hfz, hnd⟩ := hW
  have hA : DataW.TrodAll enc Try.prog W 0 (fun _ => true) true Try.f6.params.toList args.toList ds p := hA0
  rw [Try.params6] at hA hval
  obtain ⟨v0, vs0, d0, ds0, p0, q0, hargs, rfl, rfl, h0, r0⟩ := trodAll_cons hA
  obtain ⟨v1, vs1, d1, ds1, p1, q1, rfl, rfl, rfl, h1, r1⟩ := trodAll_cons r0
  obtain ⟨v2, vs2, d2, ds2, p2, q2, rfl, rfl, rfl, h2, r2⟩ := trodAll_cons r1
  obtain ⟨v3, vs3, d3, ds3, p3, q3, rfl, rfl, rfl, h3, r3⟩ := trodAll_cons r2
  obtain ⟨v4, vs4, d4, ds4, p4, q4, rfl, rfl, rfl, h4, r4⟩ := trodAll_cons r3
  obtain ⟨v5, vs5, d5, ds5, p5, q5, rfl, rfl, rfl, h5, r5⟩ := trodAll_cons r4
  obtain ⟨v6, vs6, d6, ds6, p6, q6, rfl, rfl, rfl, h6, r6⟩ := trodAll_cons r5
  obtain ⟨v7, vs7, d7, ds7, p7, q7, rfl, rfl, rfl, h7, r7⟩ := trodAll_cons r6
  obtain ⟨v8, vs8, d8, ds8, p8, q8, rfl, rfl, rfl, h8, r8⟩ := trodAll_cons r7
  obtain ⟨rfl, rfl, rfl⟩ := trodAll_nil r8
  obtain rfl : args = #[v0, v1, v2, v3, v4, v5, v6, v7, v8] := by cases args; simp_all
  obtain ⟨rfl, rfl⟩ := trodVars_none hV
  obtain ⟨a0, rfl, rfl, rfl⟩ := open_bool Try.underlying4 (hval 0 4 v0 rfl rfl) h0
  obtain ⟨a1, rfl, rfl, rfl⟩ := open_bool Try.underlying4 (hval 1 4 v1 rfl rfl) h1
  obtain ⟨a2, rfl, rfl, rfl⟩ := open_bool Try.underlying4 (hval 2 4 v2 rfl rfl) h2
  obtain ⟨a3, rfl, rfl, rfl⟩ := open_bool Try.underlying4 (hval 3 4 v3 rfl rfl) h3
  obtain ⟨a4, rfl, rfl, rfl, w4⟩ := open_int Try.underlying5 (hval 4 5 v4 rfl rfl) h4
  obtain ⟨a5, rfl, rfl, rfl, w5⟩ := open_string Try.underlying9 (hval 5 9 v5 rfl rfl) h5
  obtain ⟨a6, len6, cap6, rfl⟩ := okWide_slice Try.underlying22 (hval 6 22 v6 rfl rfl)
  have k6 := h6
  have lt6 : ∀ x ∈ p6, x.block < W.heap.size := by obtain ⟨m, hm⟩ := k6; exact DataW.trod_lt m _ _ _ hm
  obtain ⟨z6, w6⟩ : ∃ zs, IsStrs W a6 len6 cap6 zs := by
    obtain ⟨fuel, hf⟩ := h6
    rcases open_strings Try.underlying22 Try.underlying9 (by kernel_rfl) hf with ⟨hcs, _⟩ | ⟨x, l, c, zs, hcs, _, hl, hm, hz, _, hcell, hwz⟩
    · simp [Value.cells] at hcs
      obtain ⟨rfl, rfl, rfl⟩ := hcs
      exact ⟨[], .inl ⟨rfl, rfl, rfl, rfl⟩⟩
    · simp [Value.cells] at hcs
      obtain ⟨rfl, rfl, rfl⟩ := hcs
      exact ⟨zs, .inr ⟨_, rfl, hl, hm, by simpa using hz, hcell, hwz⟩⟩
  obtain ⟨a7, len7, cap7, rfl⟩ := okWide_slice Try.underlying23 (hval 7 23 v7 rfl rfl)
  have k7 := h7
  have lt7 : ∀ x ∈ p7, x.block < W.heap.size := by obtain ⟨m, hm⟩ := k7; exact DataW.trod_lt m _ _ _ hm
  obtain ⟨z7, w7⟩ : ∃ zs, IsRow .i64 W a7 len7 cap7 zs := by
    obtain ⟨fuel, hf⟩ := h7
    rcases open_ints Try.underlying23 Try.underlying3 (by kernel_rfl) hf with ⟨hcs, _⟩ | ⟨x, l, c, zs, hcs, _, hl, hm, hz, _, hcell, hwz⟩
    · simp [Value.cells] at hcs
      obtain ⟨rfl, rfl, rfl⟩ := hcs
      exact ⟨[], .inl ⟨rfl, rfl, rfl, rfl⟩⟩
    · simp [Value.cells] at hcs
      obtain ⟨rfl, rfl, rfl⟩ := hcs
      exact ⟨zs, .inr ⟨_, rfl, hl, hm, by simpa using hz, hcell, hwz⟩⟩
  obtain ⟨a8, rfl, rfl, rfl, w8⟩ := open_int Try.underlying5 (hval 8 5 v8 rfl rfl) h8
  clear hA0 hval0
  refine (walk a0 a1 a2 a3 a4 a5 a6 len6 cap6 z6 a7 len7 cap7 z7 a8 W w4 w5 w6 w7 w8).mono fun e W' ⟨he, bel⟩ => ?_
  subst he
  exact ⟨_, rfl, _, _, _, [], _, [], hW', trodAll_mk1 (shut_bool Try.underlying4 _), (trodAll_cons_mk (shut_bool Try.underlying4 _) (trodAll_cons_mk (shut_bool Try.underlying4 _) (trodAll_cons_mk (shut_bool Try.underlying4 _) (trodAll_cons_mk (shut_bool Try.underlying4 _) (trodAll_cons_mk (shut_int Try.underlying5 w4) (trodAll_cons_mk (shut_string Try.underlying9 w5) (trodAll_cons_mk (Below.trod laidOut (by kernel_rfl) (of_decide_eq_true (by kernel_rfl)) k6 bel lt6) (trodAll_cons_mk (Below.trod laidOut (by kernel_rfl) (of_decide_eq_true (by kernel_rfl)) k7 bel lt7) (trodAll_cons_mk (shut_int Try.underlying5 w8) trodAll_mk0))))))))), rfl, bel.frame _, fun h => by cases h⟩

theorem over : Rows.fnDeclaredIgnoresValueAndGrowsWithAttributesRow.holds Try.pinned (OpenSpec.ofChange Rows.fnDeclaredIgnoresValueAndGrowsWithAttributesSpec) :=
  OpenClaim.holds_of_wide 6 Try.f6 rfl rfl rfl rfl rfl rfl rfl ⟨rfl, rfl, rfl, rfl, rfl⟩ rfl rfl rfl rfl rfl (by kernel_rfl) Try.func6 (by kernel_rfl)
    (of_decide_eq_true (by kernel_rfl)) (by unfold Func.isWrapper; first | (rw [if_pos (by decide +kernel)]; kernel_rfl) | (rw [if_neg (by decide +kernel)]; exact ⟨rfl, rfl⟩))
    (fun os started H enc _ => lifted os started H enc)

/-- The statement. -/
theorem proved : Rows.FnDeclaredIgnoresValueAndGrowsWithAttributesSaid := over
#print axioms proved
end Go.Proofs.Ytljbaachfbcbbaa.fnDeclaredIgnoresValueAndGrowsWithAttributes
