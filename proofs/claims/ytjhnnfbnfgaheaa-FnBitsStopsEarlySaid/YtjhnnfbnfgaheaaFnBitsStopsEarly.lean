/-
  For all ints l and k, FnBitsStopsEarly returns true. No conditions.
  The frame round the walk was written by a printer (mkframe.py), after the kit's own shells.
-/
import Derived.Test.YtjhnnfbnfgaheaaRows
import Derived.WalkKit
import Derived.ProofKit
import Derived.OpenShut
import Derived.Test.YtjhnnfbnfgaheaaBits
import Derived.Deep.QuietTactic
import Derived.BigQuiet
import Derived.ShutString
import Derived.ChangeOld
import Derived.Below
namespace Go.Proofs.Ytjhnnfbnfgaheaa.fnBitsStopsEarly
open Go.ChangeShapes Go.WideShapes Go.ChangeAt Go.RowKit
open Go.ChangeMaps (open_string shut_string)
set_option linter.unusedVariables false
open Go.Proofs.Ytjhnnfbnfgaheaa.bitsOf
open Go.Shelf

theorem own : ownKnob Try.prog.godebug = none := by kernel_rfl
theorem laidOut : laidOutB Try.prog = true := by kernel_rfl

attribute [local go_sem] Oper.semAt_some
/-- a slice of n ints f that can be read -/
def IR (w : World) (a : Option Addr) (n : Nat) (f : Nat → Int) : Prop := n = 0 ∨ ∃ g, a = some ⟨g, 0, none⟩ ∧ ∀ i, i < n → w.cell? ⟨g, i, none⟩ = some (.int .i64 (f i))
def at0 (l : List Int) (i : Nat) : Int := l[i]?.getD 0
theorem own_ir {w : World} {B e : Nat} {v : Value} {n : Nat} {xs : List Int} (h : w.ownsRow B e 1 v n (xs.map (Value.int .i64))) (hn : n = xs.length) : ∃ a c, v = .slice a n c ∧ IR w a n (at0 xs) := by
  rcases h.2 with ⟨rfl, rfl⟩ | ⟨g, cap, cur, rfl, _⟩
  · exact ⟨_, _, rfl, .inl rfl⟩
  · refine ⟨_, _, rfl, .inr ⟨g, rfl, fun i hi => ?_⟩⟩
    rw [World.ownsRow.cellAt h i (by omega), List.getElem?_map]
    unfold at0
    rw [List.getElem?_eq_getElem (by omega)]; rfl
theorem IR.keep {w w' : World} {B : Nat} {a : Option Addr} {n : Nat} {f : Nat → Int} (h : IR w a n f) (hb : Below B w w') (hB : ∀ g, a = some ⟨g, 0, none⟩ → g < B) : IR w' a n f := by
  rcases h with h | ⟨g, rfl, hc⟩
  · exact .inl h
  · exact .inr ⟨g, rfl, fun i hi => (hb.cell (p := ⟨g, i, none⟩) (hB g rfl)).trans (hc i hi)⟩
theorem at_take (l : List Int) (k i : Nat) (h : i < k) : at0 (l.take k) i = at0 l i := by
  unfold at0; rw [List.getElem?_take, if_pos h]
theorem stop_take {l init : List Int} {x : Int} (h : init ++ [x] <+: l) : init = l.take init.length ∧ init.length < l.length := by
  obtain ⟨t, ht⟩ := h
  subst ht
  constructor
  · simp
  · simp
/-- the same memory, whatever was drawn -/
structure Same (W wr : World) : Prop where
  heap : wr.heap = W.heap
  os : wr.os = W.os
  tape : wr.tape = W.tape
  output : wr.output = W.output
theorem Same.refl (W : World) : Same W W := ⟨rfl, rfl, rfl, rfl⟩
theorem Same.drewN {W wr : World} (h : Same W wr) (n : Nat) : Same W (wr.drewN n) := ⟨h.heap, h.os, h.tape, h.output⟩
theorem Same.cell {W wr : World} (h : Same W wr) {a : Addr} {v : Value} (hc : W.cell? a = some v) : wr.cell? a = some v := by
  rw [← hc]; exact World.cell?_of_block (by rw [h.heap])
theorem Same.below {W wr : World} (h : Same W wr) (B : Nat) : Below B W wr := ⟨h.os, h.tape, h.output, by rw [h.heap]; exact Nat.le_refl _, fun _ _ => by rw [h.heap]⟩
set_option maxRecDepth 100000 in
theorem walk (a0 : Int) (a1 : Int) (w : World) (w0 : (Lit.int .i64 a0).wf = true) (w1 : (Lit.int .i64 a1).wf = true) :
    Calls Try.prog 5 #[.int .i64 a0, .int .i64 a1] w fun e w' => e = .returned (.bool true) ∧ Below w.heap.size w w' := by
  clear w0 w1
  obtain ⟨i0, hi, hz0, hz1, hz2⟩ := info_parts info_lv
  refine (callsIn_wide (n := 9)).1 ?_
  refine callsIn_of_wp_marks Try.func5 rfl trivial ?_ rfl
  simp only [Try.ntmps5, List.size_toArray, List.length_cons, List.length_nil, Nat.reduceAdd, Nat.reduceSub, Array.replicate_succ, Array.replicate_zero, List.push_toArray, List.append_toArray, List.nil_append, List.cons_append]
  by_cases k1 : a1 < 0
  · gi_wp2
    exact ⟨_, results_tmp rfl _ _ _, rfl, (Below.refl _ _).alloc (Nat.le_refl _) _⟩
  by_cases k2 : 8 < a1
  · gi_wp2
    exact ⟨_, results_tmp rfl _ _ _, rfl, (Below.refl _ _).alloc (Nat.le_refl _) _⟩
  obtain ⟨k, rfl⟩ : ∃ k : Nat, a1 = (k : Int) := ⟨a1.toNat, by omega⟩
  have d1 : decide ((k : Int) < 0) = false := by simp
  have d2 : decide ((8 : Int) < (k : Int)) = false := by simp; omega
  gi_wp2_with (refine ⟨trivial, ?_⟩; gi_at_call 12; refine ((callsIn_wide (n := 8)).2 (list_any _ _)).mono ?_; rintro e w1 ⟨v, rfl, hown, hb1⟩)
  obtain ⟨F, hF⟩ : ∃ F, F = upto a0 5 := ⟨_, rfl⟩
  rw [← hF] at hown
  have HF := Lib.hid hF
  clear hF
  obtain ⟨fa, fc, rfl, hir⟩ := own_ir hown rfl
  have hfg : ∀ g, fa = some ⟨g, 0, none⟩ → g < w1.heap.size := fun g hg => by
    have := (World.ownsRow.lt hown g (by rw [hg]; rfl)).2; exact this
  have IRF := Lib.hid hir
  have FG := Lib.hid hfg
  have zk : w.heap.size < w1.heap.size := by have := hb1.size; simp at this; omega
  have ck0 : w1.cell? ⟨w.heap.size, 0, none⟩ = some (.int .i64 (k : Int)) := by rw [hb1.cell (p := ⟨w.heap.size, 0, none⟩) (by simp)]; simp
  have CK := Lib.hid ck0
  have HB1 := Lib.hid (show Below w.heap.size w w1 from ((Below.refl _ w).alloc (Nat.le_refl _) _).trans (hb1.mono (by simp)))
  clear hown hir hfg hb1 ck0
  refine ⟨trivial, ?_⟩
  refine ((callsIn_wide (n := 8)).2 (bits_any _ _)).mono ?_
  rintro e w' ⟨rfl, rfl⟩
  gi_wp2
  have bO := Boxed.new w1 29 (.slice none 0 0)
  have bN := Boxed.new (w1.alloc (.cells #[.slice none 0 0] 29)) 27 (.int .i64 a0)
  rw [World.size_alloc] at bN
  have hB0 : Below w1.heap.size w1 ((w1.alloc (.cells #[.slice none 0 0] 29)).alloc (.cells #[.int .i64 a0] 27)) := ((Below.refl _ w1).alloc (Nat.le_refl _) _).alloc (by simp) _
  refine wpIn_rangeFunc_ownG rfl (show 1 ≤ 9 by omega) (gf := 29) (lb := #[.pointer (some ⟨w1.heap.size + 1, 0, none⟩)]) rfl trivial (enters_of Try.func29 (by kernel_rfl) rfl)
    (iter_stops Fence.wide 8 trivial rfl (by omega) (w1.heap.size + 1) a0 _ (by simp) bN.cell) kp_t (kp_b (by simp)) (Below.refl _ _) (fun _ => rfl)
    (fun (pre : List Int) W => (∃ v, Boxed W w1.heap.size 29 v ∧ W.ownsRow (w1.heap.size + 1 + 1) 27 1 v pre.length (pre.map (Value.int .i64)) ∧ pre.length ≤ k) ∧ Below w1.heap.size w1 W ∧ w1.heap.size + 2 ≤ W.heap.size)
    (fun c pre W => c = .exit 0 ∧ ∃ (init : List Int) (x : Int), pre = init ++ [x] ∧ init.length = k ∧ (∃ v, Boxed W w1.heap.size 29 v ∧ W.ownsRow (w1.heap.size + 1 + 1) 27 1 v init.length (init.map (Value.int .i64)) ∧ True) ∧ Below w1.heap.size w1 W)
    (OwnFrom.and (Own.from (holdsRow_own (w1.heap.size + 1 + 1) w1.heap.size 29 27 1 (fun pre : List Int => pre.length) (fun pre : List Int => pre.map (Value.int .i64)) (fun pre _ => pre.length ≤ k)) _) (OwnFrom.and (ownFrom_below (Nat.le_refl _) (by simp; omega)) (fun _ _ _ _ hs hg _ => Nat.le_trans hs hg.size)))
    (fun c s A B row hs hg hr => by
      obtain ⟨hc, init, x, hx, hl, hv, hbel⟩ := hs
      exact ⟨hc, init, x, hx, hl, holdsRow_own (w1.heap.size + 1 + 1) w1.heap.size 29 27 1 (fun pre : List Int => pre.length) (fun pre : List Int => pre.map (Value.int .i64)) (fun _ _ => True) init A B row hv hg (fun r e => (hr r e).2),
        ownFrom_below (β := Unit) (Nat.le_refl _) (Nat.le_refl _) () A B row hbel hg (fun r e => ⟨by have := (hr r e).1; simp at this; omega, (hr r e).2⟩)⟩)
    ⟨⟨_, bO.alloc _, World.ownsRow_nil _ _ _ _, by simp⟩, hB0, by simp⟩
    (fun x => { tmps := #[.int .i64 a0, .int .i64 (k : Int), undef, .pointer (some ⟨w.heap.size, 0, none⟩), .bool false, .int .i64 a0, .slice fa F.length fc, .pointer (some ⟨w1.heap.size, 0, none⟩), .int .i64 x, undef, undef, .int .i64 (k : Int), .bool false, .bool false, .int .i64 (k : Int), .bool false, .bool false, .int .i64 a0, .int .i64 a0, .slice fa F.length fc, .int .i64 a0, .func (.func 29) #[] #[.pointer (some ⟨w1.heap.size + 1, 0, none⟩)], .int .i64 x, undef, undef, undef, undef, undef, undef, undef, undef, undef, undef, undef, undef, undef, undef, undef, undef, undef, undef, undef, undef, undef, undef, undef, undef, undef, undef, undef, undef, undef, undef, undef, undef, undef], defers := [] }) ?assign ?body ?done ?stop
  case assign =>
    intro ll x W K hK
    gi_wp2
    exact hK
  case body =>
    rintro ll pre x W ⟨⟨v, hv, hrow, hle⟩, hB, hS⟩ hlt
    obtain ⟨va, vc, rfl, _⟩ := own_ir hrow rfl
    have hc := hv.cell
    have hk := (hB.cell (p := ⟨w.heap.size, 0, none⟩) zk).trans CK.out
    by_cases hkl : pre.length < k
    · have t1 : decide ((k : Int) ≤ (pre.length : Int)) = false := by simp; omega
      gi_wp2_with (gi_at_builtin; refine wpListIn_append_own _ rfl _ _ 29 rfl (w1.heap.size + 1 + 1) 27 i0 (.int .i64 0) 1 8 Try.underlying29 hi hz0 hz1 hz2 rfl (by decide) _ _ _ rfl (hrow.alloc _) ⟨W.heap.size, 0, none⟩ 1 1 [.int .i64 x] rfl rfl (cell_one_new _ _ _) (by simp [Value.oneCell']) (by unfold maxLen; omega) (by omega) (by simp; omega) ?_; intro v' w2 hown' hgrow _; obtain ⟨g', cap', rfl⟩ := ownsRow_succ hown'; obtain ⟨hv1, hv2, hr2, hk2, hb2, hp2⟩ := app_kept (Bn := w1.heap.size + 1) a0 (by omega) hv (by decide) hrow hB.size (by omega) hown' hgrow; have hc1 := hv1.cell; have hf1 := hv1.frozen)
      exact ⟨hk2.from _, hp2, ⟨⟨_, hv2, by simpa using hr2, by simp; omega⟩, hB.trans hb2, by have := hb2.size; omega⟩⟩
    · have hke : pre.length = k := by omega
      have t1 : decide ((k : Int) ≤ (pre.length : Int)) = true := by simp; omega
      gi_wp2
      exact ⟨(KeepsOthers.refl _).from _, rfl, pre, x, rfl, hke, ⟨_, hv, hrow, trivial⟩, hB⟩
  case done =>
    rintro D ys W hD rfl ⟨⟨v, hv, hrow, hle⟩, hB, _⟩ hK
    rw [← HF.out] at hrow hle
    obtain ⟨pa, pc, rfl, hpr⟩ := own_ir hrow rfl
    have hc := hv.cell
    have hk := (hB.cell (p := ⟨w.heap.size, 0, none⟩) zk).trans CK.out
    have FR := Lib.hid (IRF.out.keep hB FG.out)
    have PR := Lib.hid hpr
    have HBW := Lib.hid (HB1.out.trans (hB.mono (by omega)))
    have HD := Lib.hid (show w.heap.size ≤ D by simp at hD; omega)
    have HK := Lib.hid hK
    clear hpr hrow hv hB hD hK
    gi_wp2
    all_goals
      gi_loopw [10] (fun i wr => ∃ j : Nat, j ≤ F.length ∧ i = .int .i64 j ∧ Same W wr) (fun i _ => F.length - (intOf i).toNat)
      case atStart => exact ⟨0, by omega, rfl, Same.refl W⟩
      case round =>
        obtain ⟨j, hj, rfl, hs⟩ := hrel
        have HS := Lib.hid hs
        have c1 := hs.cell hc
        clear hs hc hk
        by_cases hlt : j < F.length
        · rcases PR.out with h0 | ⟨g, rfl, hcp⟩
          · omega
          rcases FR.out with h0 | ⟨g2, rfl, hcf⟩
          · omega
          have c2 := HS.out.cell (hcp j hlt)
          have c3 := HS.out.cell (hcf j (by omega))
          clear hcp hcf
          gi_wp2
          refine wpIn_wide.2 ?_
          go_quiet (fail)
          gi_wp2
          go_roundw
          case rel => exact ⟨j + 1, by omega, by go_num, HS.out.drewN _⟩
          case measure => simp [intOf]; omega
        · have hK' : wr.heap[D]? = some (.deferred (some [])) := by rw [HS.out.heap]; exact HK.out
          have HB := Lib.hid (show Below w.heap.size w (wr.putObj D (.deferred none)) from (HBW.out.trans ((HS.out.below _))).trans (belowK_b (w := w) (Nat.le_refl _) wr D _ _ HD.out hK' rfl rfl))
          have HK2 := Lib.hid hK'
          clear hK'
          gi_wp2
          refine ⟨by simp, .inl ⟨_, _, rfl, run_takeDeferred HK2.out, ?_⟩⟩
          exact ⟨_, results_tmp rfl _ _ _, rfl, HB.out⟩
  case stop =>
    rintro D c pre W hD hSp ⟨rfl, init, x, rfl, hl, ⟨v, hv, hrow, _⟩, hB⟩ hK
    obtain ⟨hin, hlF⟩ := stop_take (by rw [← HF.out] at hSp; exact hSp)
    obtain ⟨pa, pc, rfl, hpr⟩ := own_ir hrow rfl
    have hc := hv.cell
    have hk := (hB.cell (p := ⟨w.heap.size, 0, none⟩) zk).trans CK.out
    have FR := Lib.hid (IRF.out.keep hB FG.out)
    have PR := Lib.hid (show IR W pa k (at0 F) by
      rw [hl] at hpr
      rcases hpr with h | ⟨g, hg, hcp⟩
      · exact .inl h
      · refine .inr ⟨g, hg, fun i hi => ?_⟩
        rw [hcp i hi, hin, hl, at_take _ _ _ hi])
    rw [hl] at hc
    have hlF' : k < F.length := by omega
    have tF : decide (F.length < k) = false := by simp; omega
    have HBW := Lib.hid (HB1.out.trans (hB.mono (by omega)))
    have HD := Lib.hid (show w.heap.size ≤ D by simp at hD; omega)
    have HK := Lib.hid hK
    clear hpr hrow hv hB hD hK hin hlF hl hSp
    gi_wp2
    gi_loopw [10] (fun i wr => ∃ j : Nat, j ≤ k ∧ i = .int .i64 j ∧ Same W wr) (fun i _ => k - (intOf i).toNat)
    case atStart => exact ⟨0, by omega, rfl, Same.refl W⟩
    case round =>
      obtain ⟨j, hj, rfl, hs⟩ := hrel
      have HS := Lib.hid hs
      have c1 := hs.cell hc
      clear hs hc hk
      by_cases hlt : j < k
      · rcases PR.out with h0 | ⟨g, rfl, hcp⟩
        · omega
        rcases FR.out with h0 | ⟨g2, rfl, hcf⟩
        · omega
        have c2 := HS.out.cell (hcp j hlt)
        have c3 := HS.out.cell (hcf j (by omega))
        clear hcp hcf
        gi_wp2
        refine wpIn_wide.2 ?_
        go_quiet (fail)
        gi_wp2
        go_roundw
        case rel => exact ⟨j + 1, by omega, by go_num, HS.out.drewN _⟩
        case measure => simp [intOf]; omega
      · have hK' : wr.heap[D]? = some (.deferred (some [])) := by rw [HS.out.heap]; exact HK.out
        have HB := Lib.hid (show Below w.heap.size w (wr.putObj D (.deferred none)) from (HBW.out.trans ((HS.out.below _))).trans (belowK_b (w := w) (Nat.le_refl _) wr D _ _ HD.out hK' rfl rfl))
        have HK2 := Lib.hid hK'
        clear hK'
        gi_wp2
        refine ⟨by simp, .inl ⟨_, _, rfl, run_takeDeferred HK2.out, ?_⟩⟩
        exact ⟨_, results_tmp rfl _ _ _, rfl, HB.out⟩

/-! ### The row's step (frame) -/
set_option maxRecDepth 100000 in
theorem lifted (os : Os) (started : os.Started) (H : Type) (enc : TypeId × Value → H) :
    ReturnsInHanded {} Try.checked os 5 .any (Rows.fnBitsStopsEarlySpec.pre6 enc Try.prog Try.f5 Rows.fnBitsStopsEarlyRow.domain false) (Rows.fnBitsStopsEarlySpec.post enc Try.prog Try.f5 false true false false) := by
  refine returnsInHanded_of_change (C := Try.checked) own started (by kernel_rfl) Try.func5
    (ChangeSpec.witness6 (enc := enc) (C := Try.checked) false ⟨#[], #[.int .i64 0, .int .i64 0], []⟩ 8 (by kernel_rfl) (by kernel_rfl) (by kernel_rfl) (by kernel_rfl)) ?_
  intro W base args ds gs before hval0 hW hcnd _
  have hval : ∀ (j : Nat) t v, Try.f5.params[j]? = some t → args[j]? = some v → Value.okWide Try.prog W .any base t v := hval0
  have hW' := hW
  obtain ⟨p, q, hA0, hV, rfl, hfz, hnd⟩ := hW
  have hA : DataW.TrodAll enc Try.prog W 0 (fun _ => true) true Try.f5.params.toList args.toList ds p := hA0
  rw [Try.params5] at hA hval
  obtain ⟨v0, vs0, d0, ds0, p0, q0, hargs, rfl, rfl, h0, r0⟩ := trodAll_cons hA
  obtain ⟨v1, vs1, d1, ds1, p1, q1, rfl, rfl, rfl, h1, r1⟩ := trodAll_cons r0
  obtain ⟨rfl, rfl, rfl⟩ := trodAll_nil r1
  obtain rfl : args = #[v0, v1] := by cases args; simp_all
  obtain ⟨rfl, rfl⟩ := trodVars_none hV
  obtain ⟨a0, rfl, rfl, rfl, w0⟩ := open_int Try.underlying3 (hval 0 3 v0 rfl rfl) h0
  obtain ⟨a1, rfl, rfl, rfl, w1⟩ := open_int Try.underlying3 (hval 1 3 v1 rfl rfl) h1
  clear hA0 hval0
  refine (walk a0 a1 W w0 w1).mono fun e W' ⟨he, bel⟩ => ?_
  subst he
  exact ⟨_, rfl, _, _, _, [], _, [], hW', trodAll_mk1 (shut_bool Try.underlying4 _), (trodAll_cons_mk (shut_int Try.underlying3 w0) (trodAll_cons_mk (shut_int Try.underlying3 w1) trodAll_mk0)), rfl, bel.frame _, fun h => by cases h⟩

theorem over : Rows.fnBitsStopsEarlyRow.holds Try.pinned (OpenSpec.ofChange Rows.fnBitsStopsEarlySpec) :=
  OpenClaim.holds_of_wide 5 Try.f5 rfl rfl rfl rfl rfl rfl rfl ⟨rfl, rfl, rfl, rfl, rfl⟩ rfl rfl rfl rfl rfl (by kernel_rfl) Try.func5 (by kernel_rfl)
    (of_decide_eq_true (by kernel_rfl)) (by unfold Func.isWrapper; first | (rw [if_pos (by decide +kernel)]; kernel_rfl) | (rw [if_neg (by decide +kernel)]; exact ⟨rfl, rfl⟩))
    (fun os started H enc _ => lifted os started H enc)

/-- The statement. -/
theorem proved : Rows.FnBitsStopsEarlySaid := over
#print axioms proved
end Go.Proofs.Ytjhnnfbnfgaheaa.fnBitsStopsEarly
