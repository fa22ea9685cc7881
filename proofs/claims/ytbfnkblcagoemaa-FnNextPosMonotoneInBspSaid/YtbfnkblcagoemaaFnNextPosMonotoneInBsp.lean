/-
  For all its arguments, FnNextPosMonotoneInBsp returns true. No conditions.
  The frame round the walk was written by the kit's proof-skeleton.
-/
import Derived.Test.YtbfnkblcagoemaaRows
import Derived.WalkKit
import Derived.ProofKit
import Derived.OpenShut
import Derived.Test.YtbfnkblcagoemaaNext
import Derived.ShutString
import Derived.ChangeOld
import Derived.Below
namespace Go.Proofs.Ytbfnkblcagoemaa.fnNextPosMonotoneInBsp
open Go.ChangeShapes Go.WideShapes Go.ChangeAt Go.RowKit
open Go.ChangeMaps (open_string shut_string)
set_option linter.unusedVariables false

open Go.Proofs.Ytbfnkblcagoemaa.own
open Go.Proofs.Ytbfnkblcagoemaa.posn
open Go.Proofs.Ytbfnkblcagoemaa.nextp

theorem own : ownKnob Try.prog.godebug = none := by kernel_rfl
theorem laidOut : laidOutB Try.prog = true := by kernel_rfl

/-- WHAT THE WALK IS TOLD OF A SLICE OF INTEGERS THAT CAME IN: it is nil; or it leads to a row of 'cap' cells, the numbers 'zs' (the first 'len' are its elements, the rest its spare room), each fitting its kind. -/
def IsRow (k : IntKind) (w : World) (a : Option Addr) (len cap : Nat) (zs : List Int) : Prop :=
  (a = none ∧ len = 0 ∧ cap = 0 ∧ zs = []) ∨
  ∃ x, a = some x ∧ len ≤ cap ∧ cap ≤ maxLen ∧ zs.length = cap ∧ (∀ i, i < zs.length → w.cell? (x.add i) = some (.int k (zs.getD i 0))) ∧ ∀ n ∈ zs, (Lit.int k n).wf = true

/-! ### The walk -/
set_option maxHeartbeats 1000000 in
theorem main (a0 a1 a2 a3 a4 a5 : Int) (w : World) (b1 : a1 ≤ 9223372036854775807) (b2 : a2 ≤ 9223372036854775807) (h1 : Inside a0 a1 a2 a3 a5) (h2 : Inside a0 a1 a2 a4 a5) (hle : a3 ≤ a4) :
    Calls Try.prog 4 #[.int .i64 a0, .int .i64 a1, .int .i64 a2, .int .u64 a3, .int .u64 a4, .int .i64 a5] w fun e w' => e = .returned (.bool true) ∧ Below w.heap.size w w' := by
  have q1 := offN_bd (a0 + a3 - a5) h1.2.2.2.2.2.2.2.2
  have q2 := offN_bd (a0 + a4 - a5) h2.2.2.2.2.2.2.2.2
  have m1 : offN (a0 + a3 - a5) ≤ offN (a0 + a4 - a5) := by unfold offN; (repeat' split) <;> omega
  have HM := Lib.hid (show offN (a0 + a4 - a5) < 4294967284 → offN (a0 + a4 - a5) - offN (a0 + a3 - a5) = a4 - a3 by unfold offN; (repeat' split) <;> omega)
  have H1 := Lib.hid h1
  have H2 := Lib.hid h2
  have p3 := h1.2.2.1
  have p3' := h1.2.2.2.1
  have p4 := h2.2.2.1
  have p4' := h2.2.2.2.1
  clear h1 h2
  by_cases hb : offN (a0 + a4 - a5) < 4294967284
  · have t0 : (offN (a0 + a4 - a5) - offN (a0 + a3 - a5) != a4 - a3) = false := by rw [HM.out hb]; simp
    go_enter Try.func4, Try.ntmps4
    go_wp2_with (go_at_call 19; first | ((with_reducible refine (out_in _ _ _ _ _ _ H1.out).mono ?_); rintro e w' ⟨rfl, rfl⟩) | ((with_reducible refine (out_in _ _ _ _ _ _ H2.out).mono ?_); rintro e w' ⟨rfl, rfl⟩))
    refine (newParser _ _ _ _ _ _).mono ?_
    rintro e w1 ⟨rfl, hp⟩
    have HP := Lib.hid hp
    clear hp
    go_wp2_with fail
    refine (znext_any _ _ _ _ _ _ _ _ HP.out H1.out b1 b2).mono ?_
    rintro e w2 ⟨rfl, hx⟩
    have HX := Lib.hid hx
    clear hx
    go_wp2_with fail
    refine (fields_any _ _ _).mono ?_
    rintro e w3 ⟨rfl, hy⟩
    have HY := Lib.hid hy
    clear hy
    go_wp2_with fail
    refine (newParser _ _ _ _ _ _).mono ?_
    rintro e w4 ⟨rfl, hp⟩
    have HQ := Lib.hid hp
    clear hp
    go_wp2_with fail
    refine (znext_any _ _ _ _ _ _ _ _ HQ.out H2.out b1 b2).mono ?_
    rintro e w5 ⟨rfl, hx⟩
    have HX2 := Lib.hid hx
    clear hx
    go_wp2_with fail
    refine (fields_any _ _ _).mono ?_
    rintro e w6 ⟨rfl, hy⟩
    have HY2 := Lib.hid hy
    clear hy
    go_wp2_with fail
    go_ret
    have g1 := HP.out.2.2.2.2.2.1
    have s1 := g1.size
    have g2 := g1.trans (HX.out.mono s1)
    have g3 := g2.trans (HY.out.mono g2.size)
    have g4 := g3.trans (HQ.out.2.2.2.2.2.1.mono g3.size)
    have g5 := g4.trans (HX2.out.mono g4.size)
    exact ⟨rfl, g5.trans (HY2.out.mono g5.size)⟩
  · go_enter Try.func4, Try.ntmps4
    go_wp2_with (go_at_call 19; first | ((with_reducible refine (out_in _ _ _ _ _ _ H1.out).mono ?_); rintro e w' ⟨rfl, rfl⟩) | ((with_reducible refine (out_in _ _ _ _ _ _ H2.out).mono ?_); rintro e w' ⟨rfl, rfl⟩))
    refine (newParser _ _ _ _ _ _).mono ?_
    rintro e w1 ⟨rfl, hp⟩
    have HP := Lib.hid hp
    clear hp
    go_wp2_with fail
    refine (znext_any _ _ _ _ _ _ _ _ HP.out H1.out b1 b2).mono ?_
    rintro e w2 ⟨rfl, hx⟩
    have HX := Lib.hid hx
    clear hx
    go_wp2_with fail
    refine (fields_any _ _ _).mono ?_
    rintro e w3 ⟨rfl, hy⟩
    have HY := Lib.hid hy
    clear hy
    go_wp2_with fail
    refine (newParser _ _ _ _ _ _).mono ?_
    rintro e w4 ⟨rfl, hp⟩
    have HQ := Lib.hid hp
    clear hp
    go_wp2_with fail
    refine (znext_any _ _ _ _ _ _ _ _ HQ.out H2.out b1 b2).mono ?_
    rintro e w5 ⟨rfl, hx⟩
    have HX2 := Lib.hid hx
    clear hx
    go_wp2_with fail
    refine (fields_any _ _ _).mono ?_
    rintro e w6 ⟨rfl, hy⟩
    have HY2 := Lib.hid hy
    clear hy
    go_wp2_with fail
    go_ret
    have g1 := HP.out.2.2.2.2.2.1
    have s1 := g1.size
    have g2 := g1.trans (HX.out.mono s1)
    have g3 := g2.trans (HY.out.mono g2.size)
    have g4 := g3.trans (HQ.out.2.2.2.2.2.1.mono g3.size)
    have g5 := g4.trans (HX2.out.mono g4.size)
    exact ⟨rfl, g5.trans (HY2.out.mono g5.size)⟩
theorem walk (a0 : Int) (a1 : Int) (a2 : Int) (a3 : Int) (a4 : Int) (a5 : Int) (w : World) (w0 : (Lit.int .i64 a0).wf = true) (w1 : (Lit.int .i64 a1).wf = true) (w2 : (Lit.int .i64 a2).wf = true) (w3 : (Lit.int .u64 a3).wf = true) (w4 : (Lit.int .u64 a4).wf = true) (w5 : (Lit.int .i64 a5).wf = true) :
    Calls Try.prog 4 #[.int .i64 a0, .int .i64 a1, .int .i64 a2, .int .u64 a3, .int .u64 a4, .int .i64 a5] w fun e w' => e = .returned (.bool true) ∧ Below w.heap.size w w' := by
  have b1 := wf_i64 w1; have b2 := wf_i64 w2; have b3 := wf_u64 w3; have b4 := wf_u64 w4
  clear w0 w1 w2 w3 w4 w5
  by_cases h1 : Inside a0 a1 a2 a3 a5
  · by_cases h2 : Inside a0 a1 a2 a4 a5
    · by_cases hle : a3 ≤ a4
      · exact main a0 a1 a2 a3 a4 a5 w b1.2 b2.2 h1 h2 hle
      · have H1 := Lib.hid h1
        have H2 := Lib.hid h2
        clear h1 h2
        go_enter Try.func4, Try.ntmps4
        go_wp2_with (go_at_call 19; first | ((with_reducible refine (out_in _ _ _ _ _ _ H1.out).mono ?_); rintro e w' ⟨rfl, rfl⟩) | ((with_reducible refine (out_in _ _ _ _ _ _ H2.out).mono ?_); rintro e w' ⟨rfl, rfl⟩))
        go_ret
        exact ⟨rfl, Below.refl _ _⟩
    · have H1 := Lib.hid h1
      have H2 := Lib.hid h2
      clear h1 h2
      go_enter Try.func4, Try.ntmps4
      go_wp2_with (go_at_call 19; first | ((with_reducible refine (out_in _ _ _ _ _ _ H1.out).mono ?_); rintro e w' ⟨rfl, rfl⟩) | ((with_reducible refine (out_out _ _ _ _ _ _ b4.1 H2.out).mono ?_); rintro e w' ⟨rfl, rfl⟩))
      go_ret
      exact ⟨rfl, Below.refl _ _⟩
  · have H1 := Lib.hid h1
    clear h1
    go_enter Try.func4, Try.ntmps4
    go_wp2_with (go_at_call 19; refine (out_out _ _ _ _ _ _ b3.1 H1.out).mono ?_; rintro e w' ⟨rfl, rfl⟩)
    go_ret
    exact ⟨rfl, Below.refl _ _⟩

/-! ### The row's step (frame) -/
set_option maxRecDepth 100000 in
theorem lifted (os : Os) (started : os.Started) (H : Type) (enc : TypeId × Value → H) :
    ReturnsInHanded {} Try.checked os 4 .any (Rows.fnNextPosMonotoneInBspSpec.pre6 enc Try.prog Try.f4 Rows.fnNextPosMonotoneInBspRow.domain false) (Rows.fnNextPosMonotoneInBspSpec.post enc Try.prog Try.f4 false true false false) := by
  refine returnsInHanded_of_change (C := Try.checked) own started (by kernel_rfl) Try.func4
    (ChangeSpec.witness6 (enc := enc) (C := Try.checked) false ⟨#[], #[.int .i64 0, .int .i64 0, .int .i64 0, .int .u64 0, .int .u64 0, .int .i64 0], []⟩ 8 (by kernel_rfl) (by kernel_rfl) (by kernel_rfl) (by kernel_rfl)) ?_
  intro W base args ds gs before hval0 hW hcnd _
  have hval : ∀ (j : Nat) t v, Try.f4.params[j]? = some t → args[j]? = some v → Value.okWide Try.prog W .any base t v := hval0
  have hW' := hW
  obtain ⟨p, q, hA0, hV, rfl, hfz, hnd⟩ := hW
  have hA : DataW.TrodAll enc Try.prog W 0 (fun _ => true) true Try.f4.params.toList args.toList ds p := hA0
  rw [Try.params4] at hA hval
  obtain ⟨v0, vs0, d0, ds0, p0, q0, hargs, rfl, rfl, h0, r0⟩ := trodAll_cons hA
  obtain ⟨v1, vs1, d1, ds1, p1, q1, rfl, rfl, rfl, h1, r1⟩ := trodAll_cons r0
  obtain ⟨v2, vs2, d2, ds2, p2, q2, rfl, rfl, rfl, h2, r2⟩ := trodAll_cons r1
  obtain ⟨v3, vs3, d3, ds3, p3, q3, rfl, rfl, rfl, h3, r3⟩ := trodAll_cons r2
  obtain ⟨v4, vs4, d4, ds4, p4, q4, rfl, rfl, rfl, h4, r4⟩ := trodAll_cons r3
  obtain ⟨v5, vs5, d5, ds5, p5, q5, rfl, rfl, rfl, h5, r5⟩ := trodAll_cons r4
  obtain ⟨rfl, rfl, rfl⟩ := trodAll_nil r5
  obtain rfl : args = #[v0, v1, v2, v3, v4, v5] := by cases args; simp_all
  obtain ⟨rfl, rfl⟩ := trodVars_none hV
  obtain ⟨a0, rfl, rfl, rfl, w0⟩ := open_int Try.underlying2 (hval 0 2 v0 rfl rfl) h0
  obtain ⟨a1, rfl, rfl, rfl, w1⟩ := open_int Try.underlying2 (hval 1 2 v1 rfl rfl) h1
  obtain ⟨a2, rfl, rfl, rfl, w2⟩ := open_int Try.underlying2 (hval 2 2 v2 rfl rfl) h2
  obtain ⟨a3, rfl, rfl, rfl, w3⟩ := open_int Try.underlying24 (hval 3 24 v3 rfl rfl) h3
  obtain ⟨a4, rfl, rfl, rfl, w4⟩ := open_int Try.underlying24 (hval 4 24 v4 rfl rfl) h4
  obtain ⟨a5, rfl, rfl, rfl, w5⟩ := open_int Try.underlying3 (hval 5 3 v5 rfl rfl) h5
  clear hA0 hval0
  refine (walk a0 a1 a2 a3 a4 a5 W w0 w1 w2 w3 w4 w5).mono fun e W' ⟨he, bel⟩ => ?_
  subst he
  exact ⟨_, rfl, _, _, _, [], _, [], hW', trodAll_mk1 (shut_bool Try.underlying4 _), (trodAll_cons_mk (shut_int Try.underlying2 w0) (trodAll_cons_mk (shut_int Try.underlying2 w1) (trodAll_cons_mk (shut_int Try.underlying2 w2) (trodAll_cons_mk (shut_int Try.underlying24 w3) (trodAll_cons_mk (shut_int Try.underlying24 w4) (trodAll_cons_mk (shut_int Try.underlying3 w5) trodAll_mk0)))))), rfl, bel.frame _, fun h => by cases h⟩

theorem over : Rows.fnNextPosMonotoneInBspRow.holds Try.pinned (OpenSpec.ofChange Rows.fnNextPosMonotoneInBspSpec) :=
  OpenClaim.holds_of_wide 4 Try.f4 rfl rfl rfl rfl rfl rfl rfl ⟨rfl, rfl, rfl, rfl, rfl⟩ rfl rfl rfl rfl rfl (by kernel_rfl) Try.func4 (by kernel_rfl)
    (of_decide_eq_true (by kernel_rfl)) (by unfold Func.isWrapper; first | (rw [if_pos (by decide +kernel)]; kernel_rfl) | (rw [if_neg (by decide +kernel)]; exact ⟨rfl, rfl⟩))
    (fun os started H enc _ => lifted os started H enc)

/-- The statement. -/
theorem proved : Rows.FnNextPosMonotoneInBspSaid := over
#print axioms proved
end Go.Proofs.Ytbfnkblcagoemaa.fnNextPosMonotoneInBsp
