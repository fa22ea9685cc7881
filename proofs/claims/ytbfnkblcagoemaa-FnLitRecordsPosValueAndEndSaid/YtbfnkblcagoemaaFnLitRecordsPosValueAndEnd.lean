/-
  For all its arguments, FnLitRecordsPosValueAndEnd returns true. No conditions.
  The frame round the walk was written by the kit's proof-skeleton.
-/
import Derived.Test.YtbfnkblcagoemaaRows
import Derived.WalkKit
import Derived.ProofKit
import Derived.OpenShut
import Derived.Test.YtbfnkblcagoemaaLit
import Derived.Outline
import Derived.Deep.RegionWith
import Derived.ShutString
import Derived.ChangeOld
import Derived.Below
namespace Go.Proofs.Ytbfnkblcagoemaa.fnLitRecordsPosValueAndEnd
open Go.ChangeShapes Go.WideShapes Go.ChangeAt Go.RowKit
open Go.ChangeMaps (open_string shut_string)
set_option linter.unusedVariables false

open Go.Proofs.Ytbfnkblcagoemaa.own
open Go.Proofs.Ytbfnkblcagoemaa.posn
open Go.Proofs.Ytbfnkblcagoemaa.nextp
open Go.Proofs.Ytbfnkblcagoemaa.lits

theorem own : ownKnob Try.prog.godebug = none := by kernel_rfl
theorem laidOut : laidOutB Try.prog = true := by kernel_rfl

/-- WHAT THE WALK IS TOLD OF A SLICE OF INTEGERS THAT CAME IN: it is nil; or it leads to a row of 'cap' cells, the numbers 'zs' (the first 'len' are its elements, the rest its spare room), each fitting its kind. -/
def IsRow (k : IntKind) (w : World) (a : Option Addr) (len cap : Nat) (zs : List Int) : Prop :=
  (a = none ∧ len = 0 ∧ cap = 0 ∧ zs = []) ∨
  ∃ x, a = some x ∧ len ≤ cap ∧ cap ≤ maxLen ∧ zs.length = cap ∧ (∀ i, i < zs.length → w.cell? (x.add i) = some (.int k (zs.getD i 0))) ∧ ∀ n ∈ zs, (Lit.int k n).wf = true

/-! ### The walk -/
theorem At_drew {b : Nat} {w0 w : World} {offs line col bsp wd : Int} (h : At b w0 offs line col bsp wd w) : At b w0 offs line col bsp wd w.drew := by
  obtain ⟨c12, c13, c14, c2, c4, hbl, hbs⟩ := h
  exact ⟨c12, c13, c14, c2, c4, hbl.drew, hbs⟩
set_option maxHeartbeats 2000000 in
theorem main (a0 a1 a2 : Int) (a3 : ByteArray) (a4 a5 a6 a7 a8 : Int) (w : World) (h0 : 0 ≤ a0) (h1 : 0 ≤ a1) (h2 : 0 ≤ a2) (hs : a3.size ≤ 1048576) (hi : Inside a4 a5 a6 a7 a8) (hl : a5 ≤ 9223372036854775807) (hc : a6 ≤ 9223372036854775807) :
    Calls Try.prog 6 #[.int .u64 a0, .int .u64 a1, .int .u64 a2, .string a3, .int .i64 a4, .int .i64 a5, .int .i64 a6, .int .u64 a7, .int .i64 a8] w fun e w' => e = .returned (.bool true) ∧ Below w.heap.size w w' := by
  have HI := Lib.hid hi
  clear hi
  go_enter Try.func6, Try.ntmps6
  go_wp2_with (first | (go_at_call 26; go_in) | (go_at_call 19; (with_reducible refine (out_in _ _ _ _ _ _ HI.out).mono ?_); rintro e w' ⟨rfl, rfl⟩) | fail)
  refine (newParser2 _ _ _ _ _ _).mono ?_
  rintro e w1 ⟨⟨rfl, hA⟩, c37, f37⟩
  have HA := Lib.hid hA
  have hb1 : w.heap.size < w1.heap.size := hA.2.2.2.2.2.2
  clear hA
  go_wp2_with fail
  refine (znext_any _ _ _ _ _ _ _ _ HA.out HI.out hl hc).mono ?_
  rintro e w2 ⟨rfl, hB2⟩
  have d37 : w2.cell? ⟨w.heap.size, 37, none⟩ = some (.slice none 0 0) := cb hB2 (by exact hb1) c37
  have g37 : w2.frozen? ⟨w.heap.size, 37, none⟩ = false := (hB2.frozen (by exact hb1)).trans f37
  have hA2 : At w.heap.size w a4 a5 a6 a7 a8 w2 := by
    obtain ⟨c12, c13, c14, c2, c4, hbl, hbs⟩ := HA.out
    exact ⟨cb hB2 (by exact hb1) c12, cb hB2 (by exact hb1) c13, cb hB2 (by exact hb1) c14, cb hB2 (by exact hb1) c2, cb hB2 (by exact hb1) c4, hbl.trans (hB2.mono (by omega)), by have := hB2.size; omega⟩
  have HA2 := Lib.hid hA2
  have hb2 : w.heap.size < w2.heap.size := hA2.2.2.2.2.2.2
  clear hB2 hA2 HA c37 f37
  go_wp2_with fail
  generalize hV : World.alloc _ _ = V
  have p0 : V.cell? ⟨w2.heap.size, 0, none⟩ = some (.int .u32 (offN (a4 + a7 - a8))) := by rw [← hV]; simp [go_sem]
  have p1 : V.cell? ⟨w2.heap.size, 1, none⟩ = some (.int .u32 (lcN a5 a6)) := by rw [← hV]; simp [go_sem]
  have e37 : V.cell? ⟨w.heap.size, 37, none⟩ = some (.slice none 0 0) := by rw [← hV]; exact ck _ d37
  have i37 : V.frozen? ⟨w.heap.size, 37, none⟩ = false := by rw [← hV, frozen?_alloc_cells]; exact g37
  have hA3 : At w.heap.size w a4 a5 a6 a7 a8 V := by
    obtain ⟨c12, c13, c14, c2, c4, hbl, hbs⟩ := HA2.out
    rw [← hV]
    exact ⟨ck _ c12, ck _ c13, ck _ c14, ck _ c2, ck _ c4, hbl.alloc (by omega) _, by simp; omega⟩
  have hb3 : w2.heap.size < V.heap.size := cell_lt p0
  have HA3 := Lib.hid hA3
  clear hV hA3 HA2 d37 g37
  refine (newPos_below _ _ _ _ h0 h1 h2).mono ?_
  rintro e w3 ⟨rfl, hB3⟩
  have hb4 : V.heap.size ≤ w3.heap.size := hB3.size
  have P0 := cb hB3 (by exact hb3) p0
  have P1 := cb hB3 (by exact hb3) p1
  have E37 : w3.cell? ⟨w.heap.size, 37, none⟩ = some (.slice none 0 0) := cb hB3 (by exact (by omega : w.heap.size < V.heap.size)) e37
  have I37 : w3.frozen? ⟨w.heap.size, 37, none⟩ = false := (hB3.frozen (by exact (by omega : w.heap.size < V.heap.size))).trans i37
  have hA4 : At w.heap.size w a4 a5 a6 a7 a8 w3 := by
    have hx : w.heap.size < V.heap.size := by omega
    obtain ⟨c12, c13, c14, c2, c4, hbl, hbs⟩ := HA3.out
    exact ⟨cb hB3 (by exact hx) c12, cb hB3 (by exact hx) c13, cb hB3 (by exact hx) c14, cb hB3 (by exact hx) c2, cb hB3 (by exact hx) c4, hbl.trans (hB3.mono (by omega)), by omega⟩
  have HA4 := Lib.hid hA4
  clear hB3 hA4 HA3 p0 p1 e37 i37
  generalize hX : offN a0 = X
  generalize hY : lcN a1 a2 = Y
  clear hX hY
  go_wp2_with fail
  generalize hV : World.alloc _ _ = V2
  have q0 : V2.cell? ⟨w3.heap.size, 0, none⟩ = some (.int .u32 X) := by rw [← hV]; simp [go_sem]
  have q1 : V2.cell? ⟨w3.heap.size, 1, none⟩ = some (.int .u32 Y) := by rw [← hV]; simp [go_sem]
  have r0 : V2.cell? ⟨w2.heap.size, 0, none⟩ = some (.int .u32 (offN (a4 + a7 - a8))) := by rw [← hV]; exact ck _ P0
  have r1 : V2.cell? ⟨w2.heap.size, 1, none⟩ = some (.int .u32 (lcN a5 a6)) := by rw [← hV]; exact ck _ P1
  have e37 : V2.cell? ⟨w.heap.size, 37, none⟩ = some (.slice none 0 0) := by rw [← hV]; exact ck _ E37
  have i37 : V2.frozen? ⟨w.heap.size, 37, none⟩ = false := by rw [← hV, frozen?_alloc_cells]; exact I37
  have hA5 : At w.heap.size w a4 a5 a6 a7 a8 V2 := by
    obtain ⟨c12, c13, c14, c2, c4, hbl, hbs⟩ := HA4.out
    rw [← hV]
    exact ⟨ck _ c12, ck _ c13, ck _ c14, ck _ c2, ck _ c4, hbl.alloc (by omega) _, by simp; omega⟩
  have hb5 : w3.heap.size < V2.heap.size := cell_lt q0
  clear hV HA4 E37 I37 P0 P1
  refine (zlit_any _ X Y a3 _ _ _ _ _ w V2 hA5 HI.out hl hc e37 i37).mono ?_
  rintro e w4 ⟨g, hg, rfl, l0, l1, l2, l3, l4, hold, hA6⟩
  have q0' := (hold ⟨w3.heap.size, 0, none⟩ (by exact hb5) (by exact (by omega : w3.heap.size ≠ w.heap.size))).trans q0
  have q1' := (hold ⟨w3.heap.size, 1, none⟩ (by exact hb5) (by exact (by omega : w3.heap.size ≠ w.heap.size))).trans q1
  have r0' := (hold ⟨w2.heap.size, 0, none⟩ (by exact (by omega : w2.heap.size < V2.heap.size)) (by exact (by omega : w2.heap.size ≠ w.heap.size))).trans r0
  have r1' := (hold ⟨w2.heap.size, 1, none⟩ (by exact (by omega : w2.heap.size < V2.heap.size)) (by exact (by omega : w2.heap.size ≠ w.heap.size))).trans r1
  have HA6 := Lib.hid hA6
  clear hold hA6 hA5 q0 q1 r0 r1 e37 i37
  generalize hO : offN (a4 + a7 - a8) = O at *
  generalize hL : lcN a5 a6 = L at *
  have HO := Lib.hid hO
  have HL := Lib.hid hL
  clear hO hL
  go_wp2_with fail
  go_quiet (fail)
  obtain ⟨W2, hW2⟩ : ∃ W2 : World, W2 = w4.drewN nq := ⟨_, rfl⟩
  rw [← hW2]
  have m2 : W2.cell? ⟨g, 2, none⟩ = some (.int .u32 O) := by rw [hW2]; exact l2
  have m3 : W2.cell? ⟨g, 3, none⟩ = some (.int .u32 L) := by rw [hW2]; exact l3
  have s0 : W2.cell? ⟨w2.heap.size, 0, none⟩ = some (.int .u32 O) := by rw [hW2]; exact r0'
  have s1 : W2.cell? ⟨w2.heap.size, 1, none⟩ = some (.int .u32 L) := by rw [hW2]; exact r1'
  have hA7 : At w.heap.size w a4 a5 a6 a7 a8 W2 := by
    obtain ⟨c12, c13, c14, c2, c4, hbl, hbs⟩ := HA6.out
    rw [hW2]
    exact ⟨c12, c13, c14, c2, c4, ⟨hbl.os, hbl.tape, hbl.output, hbl.size, hbl.block⟩, hbs⟩
  have HA7 := Lib.hid hA7
  have hbx : w.heap.size < W2.heap.size := hA7.2.2.2.2.2.2
  have hby : w2.heap.size < W2.heap.size := cell_lt s0
  clear hW2 hA7 HA6 l0 l1 l2 l3 l4 q0' q1' r0' r1'
  go_wp2_with fail
  refine (expect_any _ _ _ _ _ _ HI.out hl hc).mono ?_
  rw [HO.out, HL.out]
  rintro e w5 ⟨rfl, rfl⟩
  go_wp2_with fail
  refine (fields_any _ _ _).mono ?_
  rintro e w6 ⟨rfl, hB6⟩
  have t0 : w6.cell? ⟨w2.heap.size, 0, none⟩ = some (.int .u32 O) := cb hB6 (by exact hby) s0
  have t1 : w6.cell? ⟨w2.heap.size, 1, none⟩ = some (.int .u32 L) := cb hB6 (by exact hby) s1
  have hA8 : At w.heap.size w a4 a5 a6 a7 a8 w6 := by
    obtain ⟨c12, c13, c14, c2, c4, hbl, hbs⟩ := HA7.out
    exact ⟨cb hB6 (by exact hbx) c12, cb hB6 (by exact hbx) c13, cb hB6 (by exact hbx) c14, cb hB6 (by exact hbx) c2, cb hB6 (by exact hbx) c4, hbl.trans (hB6.mono (by omega)), by have := hB6.size; omega⟩
  have HA8 := Lib.hid hA8
  clear hB6 hA8 HA7 s0 s1 m2 m3
  go_wp2_with fail
  have hbz : w2.heap.size < w6.heap.size := cell_lt t0
  have hz : Below w.heap.size w w6 := HA8.out.2.2.2.2.2.1
  have HZ := Lib.hid hz
  clear hz
  go_region_with (first | (go_at_call 17; refine (znext_any _ _ _ _ _ _ w _ (by first | exact HA8.out | exact At_drew HA8.out | exact At_drew (At_drew HA8.out)) HI.out hl hc).mono ?_; rw [HO.out, HL.out]; rintro e w7 ⟨rfl, hB7⟩; have u0 : w7.cell? ⟨w2.heap.size, 0, none⟩ = some (.int .u32 O) := cb hB7 (by exact hbz) t0; have u1 : w7.cell? ⟨w2.heap.size, 1, none⟩ = some (.int .u32 L) := cb hB7 (by exact hbz) t1; have HB7 := Lib.hid hB7; clear hB7))
  all_goals
    go_wp2_with fail
    go_ret
    first | exact ⟨rfl, HZ.out.trans (HB7.out.mono HZ.out.size)⟩ | exact ⟨rfl, HZ.out.drew.trans (HB7.out.mono HZ.out.size)⟩ | exact ⟨rfl, HZ.out.drew.drew.trans (HB7.out.mono HZ.out.size)⟩
theorem walk (a0 : Int) (a1 : Int) (a2 : Int) (a3 : ByteArray) (a4 : Int) (a5 : Int) (a6 : Int) (a7 : Int) (a8 : Int) (w : World) (w0 : (Lit.int .u64 a0).wf = true) (w1 : (Lit.int .u64 a1).wf = true) (w2 : (Lit.int .u64 a2).wf = true) (w3 : a3.size ≤ maxLen) (w4 : (Lit.int .i64 a4).wf = true) (w5 : (Lit.int .i64 a5).wf = true) (w6 : (Lit.int .i64 a6).wf = true) (w7 : (Lit.int .u64 a7).wf = true) (w8 : (Lit.int .i64 a8).wf = true) :
    Calls Try.prog 6 #[.int .u64 a0, .int .u64 a1, .int .u64 a2, .string a3, .int .i64 a4, .int .i64 a5, .int .i64 a6, .int .u64 a7, .int .i64 a8] w fun e w' => e = .returned (.bool true) ∧ Below w.heap.size w w' := by
  have b0 := wf_u64 w0; have b1 := wf_u64 w1; have b2 := wf_u64 w2; have b5 := wf_i64 w5; have b6 := wf_i64 w6; have b7 := wf_u64 w7
  clear w0 w1 w2 w3 w4 w5 w6 w7 w8
  by_cases hs : a3.size ≤ 1048576
  · by_cases hi : Inside a4 a5 a6 a7 a8
    · exact main a0 a1 a2 a3 a4 a5 a6 a7 a8 w b0.1 b1.1 b2.1 hs hi b5.2 b6.2
    · have HI := Lib.hid hi
      clear hi
      go_enter Try.func6, Try.ntmps6
      go_wp2_with (first | (go_at_call 26; go_in) | (go_at_call 19; (with_reducible refine (out_out _ _ _ _ _ _ b7.1 HI.out).mono ?_); rintro e w' ⟨rfl, rfl⟩) | fail)
      go_ret
      exact ⟨rfl, Below.refl _ _⟩
  · go_enter Try.func6, Try.ntmps6
    go_wp2_with (first | (go_at_call 26; go_in))
    go_ret
    exact ⟨rfl, Below.refl _ _⟩

/-! ### The row's step (frame) -/
set_option maxRecDepth 100000 in
theorem lifted (os : Os) (started : os.Started) (H : Type) (enc : TypeId × Value → H) :
    ReturnsInHanded {} Try.checked os 6 .any (Rows.fnLitRecordsPosValueAndEndSpec.pre6 enc Try.prog Try.f6 Rows.fnLitRecordsPosValueAndEndRow.domain false) (Rows.fnLitRecordsPosValueAndEndSpec.post enc Try.prog Try.f6 false true false false) := by
  refine returnsInHanded_of_change (C := Try.checked) own started (by kernel_rfl) Try.func6
    (ChangeSpec.witness6 (enc := enc) (C := Try.checked) false ⟨#[], #[.int .u64 0, .int .u64 0, .int .u64 0, .string ByteArray.empty, .int .i64 0, .int .i64 0, .int .i64 0, .int .u64 0, .int .i64 0], []⟩ 8 (by kernel_rfl) (by kernel_rfl) (by kernel_rfl) (by kernel_rfl)) ?_
  intro W base args ds gs before hval0 hW hcnd _
  have hval : ∀ (j : Nat) t v, Try.f6.params[j]? = some t → args[j]? = some v → Value.okWide Try.prog W .any base t v := hval0
  have hW' := hW
  obtain ⟨p, q, hA0, hV, rfl, hfz, hnd⟩ := hW
  have hA : DataW.TrodAll enc Try.prog W 0 (fun _ => true) true Try.f6.params.toList args.toList ds p := hA0
  rw [Try.params6] at hA hval
  obtain ⟨v0, vs0, d0, ds0, p0, q0, hargs, rfl, rfl, h0, r0⟩ := trodAll_cons hA
  obtain ⟨v1, vs1, d1, ds1, p1, q1, rfl, rfl, rfl, h1, r1⟩ := trodAll_cons r0
  obtain ⟨v2, vs2, d2, ds2, p2, q2, rfl, rfl, rfl, h2, r2⟩ := trodAll_cons r1
  obtain ⟨v3, vs3, d3, ds3, p3, q3, rfl, rfl, rfl, h3, r3⟩ := trodAll_cons r2
  obtain ⟨v4, vs4, d4, ds4, p4, q4, rfl, rfl, rfl, h4, r4⟩ := trodAll_cons r3
  obtain ⟨v5, vs5, d5, ds5, p5, q5, rfl, rfl, rfl, h5, r5⟩ := trodAll_cons r4
  obtain ⟨v6, vs6, d6, ds6, p6, q6, rfl, rfl, rfl, h6, r6⟩ := trodAll_cons r5
  obtain ⟨v7, vs7, d7, ds7, p7, q7, rfl, rfl, rfl, h7, r7⟩ := trodAll_cons r6
  obtain ⟨v8, vs8, d8, ds8, p8, q8, rfl, rfl, rfl, h8, r8⟩ := trodAll_cons r7
  obtain ⟨rfl, rfl, rfl⟩ := trodAll_nil r8
  obtain rfl : args = #[v0, v1, v2, v3, v4, v5, v6, v7, v8] := by cases args; simp_all
  obtain ⟨rfl, rfl⟩ := trodVars_none hV
  obtain ⟨a0, rfl, rfl, rfl, w0⟩ := open_int Try.underlying24 (hval 0 24 v0 rfl rfl) h0
  obtain ⟨a1, rfl, rfl, rfl, w1⟩ := open_int Try.underlying24 (hval 1 24 v1 rfl rfl) h1
  obtain ⟨a2, rfl, rfl, rfl, w2⟩ := open_int Try.underlying24 (hval 2 24 v2 rfl rfl) h2
  obtain ⟨a3, rfl, rfl, rfl, w3⟩ := open_string Try.underlying9 (hval 3 9 v3 rfl rfl) h3
  obtain ⟨a4, rfl, rfl, rfl, w4⟩ := open_int Try.underlying2 (hval 4 2 v4 rfl rfl) h4
  obtain ⟨a5, rfl, rfl, rfl, w5⟩ := open_int Try.underlying2 (hval 5 2 v5 rfl rfl) h5
  obtain ⟨a6, rfl, rfl, rfl, w6⟩ := open_int Try.underlying2 (hval 6 2 v6 rfl rfl) h6
  obtain ⟨a7, rfl, rfl, rfl, w7⟩ := open_int Try.underlying24 (hval 7 24 v7 rfl rfl) h7
  obtain ⟨a8, rfl, rfl, rfl, w8⟩ := open_int Try.underlying3 (hval 8 3 v8 rfl rfl) h8
  clear hA0 hval0
  refine (walk a0 a1 a2 a3 a4 a5 a6 a7 a8 W w0 w1 w2 w3 w4 w5 w6 w7 w8).mono fun e W' ⟨he, bel⟩ => ?_
  subst he
  exact ⟨_, rfl, _, _, _, [], _, [], hW', trodAll_mk1 (shut_bool Try.underlying4 _), (trodAll_cons_mk (shut_int Try.underlying24 w0) (trodAll_cons_mk (shut_int Try.underlying24 w1) (trodAll_cons_mk (shut_int Try.underlying24 w2) (trodAll_cons_mk (shut_string Try.underlying9 w3) (trodAll_cons_mk (shut_int Try.underlying2 w4) (trodAll_cons_mk (shut_int Try.underlying2 w5) (trodAll_cons_mk (shut_int Try.underlying2 w6) (trodAll_cons_mk (shut_int Try.underlying24 w7) (trodAll_cons_mk (shut_int Try.underlying3 w8) trodAll_mk0))))))))), rfl, bel.frame _, fun h => by cases h⟩

theorem over : Rows.fnLitRecordsPosValueAndEndRow.holds Try.pinned (OpenSpec.ofChange Rows.fnLitRecordsPosValueAndEndSpec) :=
  OpenClaim.holds_of_wide 6 Try.f6 rfl rfl rfl rfl rfl rfl rfl ⟨rfl, rfl, rfl, rfl, rfl⟩ rfl rfl rfl rfl rfl (by kernel_rfl) Try.func6 (by kernel_rfl)
    (of_decide_eq_true (by kernel_rfl)) (by unfold Func.isWrapper; first | (rw [if_pos (by decide +kernel)]; kernel_rfl) | (rw [if_neg (by decide +kernel)]; exact ⟨rfl, rfl⟩))
    (fun os started H enc _ => lifted os started H enc)

/-- The statement. -/
theorem proved : Rows.FnLitRecordsPosValueAndEndSaid := over
#print axioms proved
end Go.Proofs.Ytbfnkblcagoemaa.fnLitRecordsPosValueAndEnd
