/-
  For all six uint32 arguments and both lists of uint32, FnWordIterPosSpan returns true. No conditions.
  The frame round the walk was written by a printer (mkframe.py), after the kit's own shells.
-/
import Derived.Test.YtngbfadnmeohnaaRows
import Derived.WalkKit
import Derived.ProofKit
import Derived.OpenShut
import Derived.Test.YtngbfadnmeohnaaEnd0
import Derived.ShutString
import Derived.ChangeOld
import Derived.Below
namespace Go.Proofs.Ytngbfadnmeohnaa.fnWordIterPosSpan
open Go.ChangeShapes Go.WideShapes Go.ChangeAt Go.RowKit
open Go.ChangeMaps (open_string shut_string)
set_option linter.unusedVariables false
open Go.Proofs.Ytngbfadnmeohnaa.own hiding ret_int ret_bool wf_u64 wf_u32 wf_i64
open Go.Proofs.Ytngbfadnmeohnaa.posn Go.Proofs.Ytngbfadnmeohnaa.iter

theorem own : ownKnob Try.prog.godebug = none := by kernel_rfl
theorem laidOut : laidOutB Try.prog = true := by kernel_rfl

-- Strs IsRow: of the text Own
set_option maxRecDepth 100000 in
set_option maxHeartbeats 8000000 in
theorem walk (a0 : Int) (a1 : Int) (a2 : Int) (a3 : Int) (a4 : Int) (a5 : Int) (a6 : Option Addr) (len6 cap6 : Nat) (z6 : List Int) (a7 : Option Addr) (len7 cap7 : Nat) (z7 : List Int) (w : World) (w0 : (Lit.int .u32 a0).wf = true) (w1 : (Lit.int .u32 a1).wf = true) (w2 : (Lit.int .u32 a2).wf = true) (w3 : (Lit.int .u32 a3).wf = true) (w4 : (Lit.int .u32 a4).wf = true) (w5 : (Lit.int .u32 a5).wf = true) (w6 : IsRow .u32 w a6 len6 cap6 z6) (w7 : IsRow .u32 w a7 len7 cap7 z7) :
    Calls Try.prog 7 #[.int .u32 a0, .int .u32 a1, .int .u32 a2, .int .u32 a3, .int .u32 a4, .int .u32 a5, .slice a6 len6 cap6, .slice a7 len7 cap7] w fun e w' => e = .returned (.bool true) ∧ Below w.heap.size w w' := by
  have b0 := wf_u32 w0; have b4 := wf_u32 w4; have b5 := wf_u32 w5
  obtain ⟨i6, m6, q6⟩ := IsRow.ir w6
  obtain ⟨i7, m7, q7⟩ := IsRow.ir w7
  clear w0 w1 w2 w3 w4 w5 w6 w7
  obtain ⟨f, hf⟩ : ∃ f : Nat → Int, f = fun i => z6.getD i 0 := ⟨_, rfl⟩
  obtain ⟨g, hg⟩ : ∃ g : Nat → Int, g = fun i => z7.getD i 0 := ⟨_, rfl⟩
  rw [← hf] at i6
  rw [← hg] at i7
  have HI6 := Lib.hid i6
  have HI7 := Lib.hid i7
  have HQ6 := Lib.hid q6
  have HQ7 := Lib.hid q7
  clear hf hg i6 i7 q6 q7
  have HM6 := Lib.hid m6
  have HM7 := Lib.hid m7
  unfold maxLen at m6 m7
  go_enter Try.func7, Try.ntmps7
  go_wp2_with fail
  with_reducible refine (zz31 a0 a1 a2 a3 a4 a5 a6 len6 cap6 a7 len7 cap7 w HM6.out HM7.out).mono ?_
  rintro e w' ⟨bb, rfl, rfl⟩
  cases bb with
  | false =>
    go_wp2
    go_ret
    exact ⟨rfl, Below.refl _ _⟩
  | true =>
  by_cases hn6 : len6 ≤ 65536
  rotate_left
  · go_wp2
    go_ret
    exact ⟨rfl, Below.refl _ _⟩
  by_cases hn7 : len7 ≤ 65536
  rotate_left
  · go_wp2
    go_ret
    exact ⟨rfl, Below.refl _ _⟩
  by_cases hlen : len6 = len7
  rotate_left
  · have t0 : ((len6 : Int) != (len7 : Int)) = true := by simp; omega
    go_wp2
    go_ret
    exact ⟨rfl, Below.refl _ _⟩
  subst hlen
  have t0 : ((len6 : Int) != (len6 : Int)) = false := by simp
  go_wp2_with fail
  with_reducible refine (clone_all a6 len6 cap6 f w hn6 HQ6.out HI6.out).mono ?_
  rintro e w1 ⟨la, lc, rfl, hI1, hb1⟩
  have HJ6 := Lib.hid hI1
  have HB1 := Lib.hid hb1
  have HK7 := Lib.hid (HI7.out.keep hb1)
  clear hI1 hb1 HI6 HI7 HQ6
  go_wp2_with fail
  with_reducible refine (clone_all a7 len6 cap7 g w1 hn6 HQ7.out HK7.out).mono ?_
  rintro e w2 ⟨lb, ld, rfl, hI2, hb2⟩
  have HJ7 := Lib.hid hI2
  have HK6 := Lib.hid (HJ6.out.keep hb2)
  have HB2 := Lib.hid (HB1.out.trans (hb2.mono HB1.out.size))
  clear hI2 hb2 HQ7 HK7 HJ6 HB1 t0
  cases o1 : okB a0 a1 with
  | false =>
    go_wp2_with (first | (go_at_call 10; (with_reducible refine (posOK _ _ _).mono ?_); rintro e w' ⟨rfl, rfl⟩))
    go_ret
    exact ⟨rfl, HB2.out⟩
  | true =>
  cases o2 : okB a2 a3 with
  | false =>
    go_wp2_with (first | (go_at_call 10; (with_reducible refine (posOK _ _ _).mono ?_); rintro e w' ⟨rfl, rfl⟩))
    go_ret
    exact ⟨rfl, HB2.out⟩
  | true =>
  cases o3 : okB a4 a5 with
  | false =>
    go_wp2_with (first | (go_at_call 10; (with_reducible refine (posOK _ _ _).mono ?_); rintro e w' ⟨rfl, rfl⟩))
    go_ret
    exact ⟨rfl, HB2.out⟩
  | true =>
  go_wp2_with (first | (go_at_call 10; (with_reducible refine (posOK _ _ _).mono ?_); rintro e w' ⟨rfl, rfl⟩))
  with_reducible refine (itemsOK la len6 lc lb ld f g w2 hn6 HK6.out HJ7.out).mono ?_
  rintro e w3 ⟨bi, rfl, hb3⟩
  have HL6 := Lib.hid (HK6.out.keep hb3)
  have HL7 := Lib.hid (HJ7.out.keep hb3)
  have HB3 := Lib.hid (HB2.out.trans (hb3.mono HB2.out.size))
  clear hb3 HB2 HK6 HJ7 o1 o2 o3
  cases bi with
  | false =>
    go_wp2
    go_ret
    exact ⟨rfl, HB3.out⟩
  | true =>
  by_cases hne : a2 < a0
  · go_wp2
    go_ret
    exact ⟨rfl, HB3.out⟩
  by_cases hz : len6 = 0
  · subst hz
    go_wp2_with (first | (go_at_call 12; (with_reducible refine (mk12 _ _ _).mono ?_); rintro e w' ⟨rfl, rfl⟩))
    generalize hW : World.alloc _ _ = W4
    have hb4 : Below w3.heap.size w3 W4 := by rw [← hW]; go_grown
    have hL4 : LitAt W4 (w3.heap.size + 1 + 1) a0 a1 a2 a3 := by rw [← hW]; exact ⟨by simp [go_sem], by simp [go_sem], by simp [go_sem], by simp [go_sem]⟩
    have HLa := Lib.hid (HL6.out.keep hb4)
    have HLb := Lib.hid (HL7.out.keep hb4)
    have HLit := Lib.hid hL4
    have HB4 := Lib.hid (HB3.out.trans (hb4.mono HB3.out.size))
    clear hW hb4 hL4 HL6 HL7 HB3
    with_reducible refine (items la 0 lc lb ld f g W4 hn6 HLa.out HLb.out).mono ?_
    rintro e w5 ⟨ra, rfl, hlast, hb5⟩
    have HLit5 := Lib.hid (HLit.out.keep hb5)
    have HB5 := Lib.hid (HB4.out.trans (hb5.mono HB4.out.size))
    clear hlast hb5 HLit HLa HLb HB4
    go_wp2_with fail
    generalize hW : World.alloc _ _ = W6
    have hb6 : Below w5.heap.size w5 W6 := by rw [← hW]; exact (Below.refl _ _).alloc (Nat.le_refl _) _
    have hI6 : IterAt W6 w5.heap.size (w3.heap.size + 1 + 1) a4 a5 (.slice (some ⟨ra, 0, none⟩) 0 0) := by rw [← hW]; exact ⟨by simp [go_sem], by simp [go_sem], by simp [go_sem], by simp [go_sem]⟩
    have HIt := Lib.hid hI6
    have HLit6 := Lib.hid (HLit5.out.keep hb6)
    have HB6 := Lib.hid (HB5.out.trans (hb6.mono HB5.out.size))
    clear hW hb6 hI6 HLit5 HB5
    with_reducible refine (iterPos w5.heap.size (w3.heap.size + 1 + 1) a4 a5 a0 a1 a2 a3 _ W6 HIt.out HLit6.out).mono ?_
    rintro e w7 ⟨rfl, hb7⟩
    have HIt7 := Lib.hid (HIt.out.keep hb7)
    have HLit7 := Lib.hid (HLit6.out.keep hb7)
    have HB7 := Lib.hid (HB6.out.trans (hb7.mono HB6.out.size))
    clear hb7 HIt HLit6 HB6
    go_wp2_with fail
    with_reducible refine (iterEnd_none w5.heap.size (w3.heap.size + 1 + 1) _ 0 a4 a5 a0 a1 a2 a3 w7 b4.1 b5.1 b5.2 HIt7.out HLit7.out).mono ?_
    rintro e w8 ⟨mx, my, hmx, rfl, hb8⟩
    have HB8 := Lib.hid (HB7.out.trans (hb8.mono HB7.out.size))
    clear hb8 HB7
    go_wp2_with fail
    with_reducible refine (after_any a0 a1 _ _ w8).mono ?_
    rintro e w9 ⟨ba, hba, rfl, hb9⟩
    have HB9 := Lib.hid (HB8.out.trans (hb9.mono HB8.out.size))
    obtain rfl : ba = false := by
      cases ba with
      | false => rfl
      | true => have := hba rfl; exfalso; omega
    clear hba hb9 HB8
    go_wp2
    go_ret
    exact ⟨rfl, HB9.out⟩
  · rcases HL6.out with h0 | ⟨lab, lao, rfl, hc⟩
    · omega
    have c1 := hc (len6 - 1) (by omega)
    obtain ⟨xl, hxl⟩ : ∃ xl, xl = f (len6 - 1) := ⟨_, rfl⟩
    rw [← hxl] at c1
    have HXL := Lib.hid hxl
    clear hxl hc
    have i0 : (0 : Int) < (len6 : Int) := by omega
    have i1 : ((len6 : Int) - 1).toNat = len6 - 1 := by omega
    have i2 : IntKind.i64.wrap ((len6 : Int) - 1) = (len6 : Int) - 1 := IntWalk.i64_in _ (by omega)
    have i3 : (0 : Int) ≤ (len6 : Int) - 1 := by omega
    have i4 : (len6 : Int) - 1 < (len6 : Int) := by omega
    by_cases hxa : xl < a0
    · go_wp2
      go_ret
      exact ⟨rfl, HB3.out⟩
    go_wp2_with (first | (go_at_call 12; (with_reducible refine (mk12 _ _ _).mono ?_); rintro e w' ⟨rfl, rfl⟩))
    generalize hW : World.alloc _ _ = W4
    have hb4 : Below w3.heap.size w3 W4 := by rw [← hW]; go_grown
    have hL4 : LitAt W4 (w3.heap.size + 1 + 1) a0 a1 a2 a3 := by rw [← hW]; exact ⟨by simp [go_sem], by simp [go_sem], by simp [go_sem], by simp [go_sem]⟩
    have HLa := Lib.hid (HL6.out.keep hb4)
    have HLb := Lib.hid (HL7.out.keep hb4)
    have HLit := Lib.hid hL4
    have HB4 := Lib.hid (HB3.out.trans (hb4.mono HB3.out.size))
    clear hW hb4 hL4 HL6 HL7 HB3
    with_reducible refine (items (some ⟨lab, lao, none⟩) len6 lc lb ld f g W4 hn6 HLa.out HLb.out).mono ?_
    rintro e w5 ⟨ra, rfl, hlast, hb5⟩
    have HLit5 := Lib.hid (HLit.out.keep hb5)
    have HB5 := Lib.hid (HB4.out.trans (hb5.mono HB4.out.size))
    have HLast5 := Lib.hid (show LastAt w5 ra len6 (f (len6 - 1)) (g (len6 - 1)) from hlast (by omega))
    clear hlast hb5 HLit HLa HLb HB4
    go_wp2_with fail
    generalize hW : World.alloc _ _ = W6
    have hb6 : Below w5.heap.size w5 W6 := by rw [← hW]; exact (Below.refl _ _).alloc (Nat.le_refl _) _
    have hI6 : IterAt W6 w5.heap.size (w3.heap.size + 1 + 1) a4 a5 (.slice (some ⟨ra, 0, none⟩) len6 len6) := by rw [← hW]; exact ⟨by simp [go_sem], by simp [go_sem], by simp [go_sem], by simp [go_sem]⟩
    have HIt := Lib.hid hI6
    have HLit6 := Lib.hid (HLit5.out.keep hb6)
    have HLast6 := Lib.hid (HLast5.out.keep hb6)
    have HB6 := Lib.hid (HB5.out.trans (hb6.mono HB5.out.size))
    clear hW hb6 hI6 HLit5 HB5
    with_reducible refine (iterPos w5.heap.size (w3.heap.size + 1 + 1) a4 a5 a0 a1 a2 a3 _ W6 HIt.out HLit6.out).mono ?_
    rintro e w7 ⟨rfl, hb7⟩
    have HIt7 := Lib.hid (HIt.out.keep hb7)
    have HLit7 := Lib.hid (HLit6.out.keep hb7)
    have HLast7 := Lib.hid (HLast6.out.keep hb7)
    have HB7 := Lib.hid (HB6.out.trans (hb7.mono HB6.out.size))
    clear hb7 HIt HLit6 HB6
    go_wp2_with fail
    with_reducible refine (iterEnd_items w5.heap.size (w3.heap.size + 1 + 1) ra len6 a4 a5 (f (len6 - 1)) (g (len6 - 1)) w7 (by omega) hn6 HIt7.out HLast7.out).mono ?_
    rintro e w8 ⟨rfl, hb8⟩
    have HB8 := Lib.hid (HB7.out.trans (hb8.mono HB7.out.size))
    clear hb8 HB7
    go_wp2_with fail
    with_reducible refine (after_any a0 a1 _ _ w8).mono ?_
    rintro e w9 ⟨ba, hba, rfl, hb9⟩
    have HB9 := Lib.hid (HB8.out.trans (hb9.mono HB8.out.size))
    obtain rfl : ba = false := by
      cases ba with
      | false => rfl
      | true => have := hba rfl; exfalso; rw [← HXL.out] at this; omega
    clear hba hb9 HB8
    go_wp2
    go_ret
    exact ⟨rfl, HB9.out⟩

/-! ### The row's step (frame) -/
set_option maxRecDepth 100000 in
theorem lifted (os : Os) (started : os.Started) (H : Type) (enc : TypeId × Value → H) :
    ReturnsInHanded {} Try.checked os 7 .any (Rows.fnWordIterPosSpanSpec.pre6 enc Try.prog Try.f7 Rows.fnWordIterPosSpanRow.domain false) (Rows.fnWordIterPosSpanSpec.post enc Try.prog Try.f7 false true false false) := by
  refine returnsInHanded_of_change (C := Try.checked) own started (by kernel_rfl) Try.func7
    (ChangeSpec.witness6 (enc := enc) (C := Try.checked) false ⟨#[], #[.int .u32 0, .int .u32 0, .int .u32 0, .int .u32 0, .int .u32 0, .int .u32 0, .slice none 0 0, .slice none 0 0], []⟩ 8 (by kernel_rfl) (by kernel_rfl) (by kernel_rfl) (by kernel_rfl)) ?_
  intro W base args ds gs before hval0 hW hcnd _
  have hval : ∀ (j : Nat) t v, Try.f7.params[j]? = some t → args[j]? = some v → Value.okWide Try.prog W .any base t v := hval0
  have hW' := hW
  obtain ⟨p, q, hA0, hV, rfl, hfz, hnd⟩ := hW
  have hA : DataW.TrodAll enc Try.prog W 0 (fun _ => true) true Try.f7.params.toList args.toList ds p := hA0
  rw [Try.params7] at hA hval
  obtain ⟨v0, vs0, d0, ds0, p0, q0, hargs, rfl, rfl, h0, r0⟩ := trodAll_cons hA
  obtain ⟨v1, vs1, d1, ds1, p1, q1, rfl, rfl, rfl, h1, r1⟩ := trodAll_cons r0
  obtain ⟨v2, vs2, d2, ds2, p2, q2, rfl, rfl, rfl, h2, r2⟩ := trodAll_cons r1
  obtain ⟨v3, vs3, d3, ds3, p3, q3, rfl, rfl, rfl, h3, r3⟩ := trodAll_cons r2
  obtain ⟨v4, vs4, d4, ds4, p4, q4, rfl, rfl, rfl, h4, r4⟩ := trodAll_cons r3
  obtain ⟨v5, vs5, d5, ds5, p5, q5, rfl, rfl, rfl, h5, r5⟩ := trodAll_cons r4
  obtain ⟨v6, vs6, d6, ds6, p6, q6, rfl, rfl, rfl, h6, r6⟩ := trodAll_cons r5
  obtain ⟨v7, vs7, d7, ds7, p7, q7, rfl, rfl, rfl, h7, r7⟩ := trodAll_cons r6
  obtain ⟨rfl, rfl, rfl⟩ := trodAll_nil r7
  obtain rfl : args = #[v0, v1, v2, v3, v4, v5, v6, v7] := by cases args; simp_all
  obtain ⟨rfl, rfl⟩ := trodVars_none hV
  obtain ⟨a0, rfl, rfl, rfl, w0⟩ := open_int Try.underlying22 (hval 0 22 v0 rfl rfl) h0
  obtain ⟨a1, rfl, rfl, rfl, w1⟩ := open_int Try.underlying22 (hval 1 22 v1 rfl rfl) h1
  obtain ⟨a2, rfl, rfl, rfl, w2⟩ := open_int Try.underlying22 (hval 2 22 v2 rfl rfl) h2
  obtain ⟨a3, rfl, rfl, rfl, w3⟩ := open_int Try.underlying22 (hval 3 22 v3 rfl rfl) h3
  obtain ⟨a4, rfl, rfl, rfl, w4⟩ := open_int Try.underlying22 (hval 4 22 v4 rfl rfl) h4
  obtain ⟨a5, rfl, rfl, rfl, w5⟩ := open_int Try.underlying22 (hval 5 22 v5 rfl rfl) h5
  obtain ⟨a6, len6, cap6, rfl⟩ := okWide_slice Try.underlying58 (hval 6 58 v6 rfl rfl)
  have k6 := h6
  have lt6 : ∀ x ∈ p6, x.block < W.heap.size := by obtain ⟨m, hm⟩ := k6; exact DataW.trod_lt m _ _ _ hm
  obtain ⟨z6, w6⟩ : ∃ zs, IsRow .u32 W a6 len6 cap6 zs := by
    obtain ⟨fuel, hf⟩ := h6
    rcases open_ints Try.underlying58 Try.underlying22 (by kernel_rfl) hf with ⟨hcs, _⟩ | ⟨x, l, c, zs, hcs, _, hl, hm, hz, _, hcell, hwz⟩
    · simp [Value.cells] at hcs
      obtain ⟨rfl, rfl, rfl⟩ := hcs
      exact ⟨[], .inl ⟨rfl, rfl, rfl, rfl⟩⟩
    · simp [Value.cells] at hcs
      obtain ⟨rfl, rfl, rfl⟩ := hcs
      exact ⟨zs, .inr ⟨_, rfl, hl, hm, by simpa using hz, hcell, hwz⟩⟩
  obtain ⟨a7, len7, cap7, rfl⟩ := okWide_slice Try.underlying58 (hval 7 58 v7 rfl rfl)
  have k7 := h7
  have lt7 : ∀ x ∈ p7, x.block < W.heap.size := by obtain ⟨m, hm⟩ := k7; exact DataW.trod_lt m _ _ _ hm
  obtain ⟨z7, w7⟩ : ∃ zs, IsRow .u32 W a7 len7 cap7 zs := by
    obtain ⟨fuel, hf⟩ := h7
    rcases open_ints Try.underlying58 Try.underlying22 (by kernel_rfl) hf with ⟨hcs, _⟩ | ⟨x, l, c, zs, hcs, _, hl, hm, hz, _, hcell, hwz⟩
    · simp [Value.cells] at hcs
      obtain ⟨rfl, rfl, rfl⟩ := hcs
      exact ⟨[], .inl ⟨rfl, rfl, rfl, rfl⟩⟩
    · simp [Value.cells] at hcs
      obtain ⟨rfl, rfl, rfl⟩ := hcs
      exact ⟨zs, .inr ⟨_, rfl, hl, hm, by simpa using hz, hcell, hwz⟩⟩
  clear hA0 hval0
  refine (walk a0 a1 a2 a3 a4 a5 a6 len6 cap6 z6 a7 len7 cap7 z7 W w0 w1 w2 w3 w4 w5 w6 w7).mono fun e W' ⟨he, bel⟩ => ?_
  subst he
  exact ⟨_, rfl, _, _, _, [], _, [], hW', trodAll_mk1 (shut_bool Try.underlying4 _), (trodAll_cons_mk (shut_int Try.underlying22 w0) (trodAll_cons_mk (shut_int Try.underlying22 w1) (trodAll_cons_mk (shut_int Try.underlying22 w2) (trodAll_cons_mk (shut_int Try.underlying22 w3) (trodAll_cons_mk (shut_int Try.underlying22 w4) (trodAll_cons_mk (shut_int Try.underlying22 w5) (trodAll_cons_mk (Below.trod laidOut (by kernel_rfl) (of_decide_eq_true (by kernel_rfl)) k6 bel lt6) (trodAll_cons_mk (Below.trod laidOut (by kernel_rfl) (of_decide_eq_true (by kernel_rfl)) k7 bel lt7) trodAll_mk0)))))))), rfl, bel.frame _, fun h => by cases h⟩

theorem over : Rows.fnWordIterPosSpanRow.holds Try.pinned (OpenSpec.ofChange Rows.fnWordIterPosSpanSpec) :=
  OpenClaim.holds_of_wide 7 Try.f7 rfl rfl rfl rfl rfl rfl rfl ⟨rfl, rfl, rfl, rfl, rfl⟩ rfl rfl rfl rfl rfl (by kernel_rfl) Try.func7 (by kernel_rfl)
    (of_decide_eq_true (by kernel_rfl)) (by unfold Func.isWrapper; first | (rw [if_pos (by decide +kernel)]; kernel_rfl) | (rw [if_neg (by decide +kernel)]; exact ⟨rfl, rfl⟩))
    (fun os started H enc _ => lifted os started H enc)

/-- The statement. -/
theorem proved : Rows.FnWordIterPosSpanSaid := over
#print axioms proved
end Go.Proofs.Ytngbfadnmeohnaa.fnWordIterPosSpan
