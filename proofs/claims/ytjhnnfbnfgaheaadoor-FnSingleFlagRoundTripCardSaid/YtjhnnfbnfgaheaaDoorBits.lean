/-
  Contracts of LangVariant's bits (an iterator), of its closure and of the law's own zzBitsList. No condition.
-/
import Derived.RangeFuncNested
import Derived.RangeFuncBound
import Derived.RangeFuncCalls
import Derived.RangeFuncBox
import Derived.RangeFuncLeaves
import Derived.Shelf.Abstract
import Derived.WalkKit
import Derived.OwnWalkIn
import Derived.TacticsInMore
import Derived.LoopNIn
import Derived.LoopIn
import Derived.Maps.AppendAt
import Derived.Lib.Hide
import Derived.Test.YtjhnnfbnfgaheaaDoorChecked
namespace Go.Proofs.YtjhnnfbnfgaheaaDoor.bitsOf
open Go.RowKit Go.Shelf
attribute [local go_sem] Oper.semAt_some
set_option linter.unusedVariables false

/-- what bits yields before its k-th round is over -/
def upto (l : Int) (k : Nat) : List Int := (([1, 2, 4, 8, 16] : List Int).take k).filter fun n => !(bits .and .i64 l n == 0)
theorem take_snoc (k : Nat) (x : Int) (h : ([1, 2, 4, 8, 16] : List Int)[k]? = some x) : ([1, 2, 4, 8, 16] : List Int).take (k + 1) = ([1, 2, 4, 8, 16] : List Int).take k ++ [x] := by
  obtain ⟨hk, hx⟩ := List.getElem?_eq_some_iff.1 h
  rw [List.take_succ_eq_append_getElem hk, hx]
theorem upto_hit (l : Int) (k : Nat) (x : Int) (h : ([1, 2, 4, 8, 16] : List Int)[k]? = some x) (hb : (bits .and .i64 l x == 0) = false) : upto l (k + 1) = upto l k ++ [x] := by
  unfold upto; rw [take_snoc k x h, List.filter_append]; simp [hb]
theorem upto_miss (l : Int) (k : Nat) (x : Int) (h : ([1, 2, 4, 8, 16] : List Int)[k]? = some x) (hb : (bits .and .i64 l x == 0) = true) : upto l (k + 1) = upto l k := by
  unfold upto; rw [take_snoc k x h, List.filter_append]; simp [hb]
theorem upto_len (l : Int) (k : Nat) : (upto l k).length ≤ k := by
  unfold upto; exact Nat.le_trans (List.length_filter_le _ _) (List.length_take_le _ _)
theorem upto_prefix (l : Int) (k : Nat) : upto l k <+: upto l 5 := by
  unfold upto; exact List.IsPrefix.filter _ (List.take_prefix _ _)
/-- what a round must keep: the cell in which bits holds its receiver -/
def KpL (Bn : Nat) (l : Int) (W W' : World) : Prop := W.cell? ⟨Bn, 0, none⟩ = some (.int .i64 l) → W'.cell? ⟨Bn, 0, none⟩ = some (.int .i64 l)
theorem kp_t {Bn : Nat} {l : Int} {A B C : World} (h : KpL Bn l A B) (k : KpL Bn l B C) : KpL Bn l A C := fun hc => k (h hc)
theorem kp_b {Bn : Nat} {l : Int} {w : World} (hb : Bn < w.heap.size) (W : World) (j : Nat) (o o' : Obj) (hl : w.heap.size ≤ j) (h : W.heap[j]? = some o) (_ : o.isCells = false) (_ : o.isWalk = false) : KpL Bn l W (W.putObj j o') :=
  fun hc => (grownBy_putObj' W j o').cell hc (fun e => by have e2 : Bn = j := Option.some.inj e; omega)
theorem own_mono {w : World} {base base' e size : Nat} {v : Value} {n : Nat} {xs : List Value} (h : w.ownsRow base' e size v n xs) (hb : base ≤ base') : w.ownsRow base e size v n xs :=
  ⟨h.1, h.2.imp id fun ⟨g, cap, cur, hv, hb', r⟩ => ⟨g, cap, cur, hv, Nat.le_trans hb hb', r⟩⟩
/-- 'out = append(out, ..)' where the row lies behind the receiver's cell -/
theorem app_kept {W w1 : World} {B Bn : Nat} {t e : TypeId} {size : Nat} {v v' : Value} {k m : Nat} {xs ys : List Value} {tmp : Obj} (l : Int) (hB : B ≠ Bn)
    (hv : Boxed W B t v) (hte : t ≠ e) (hrow : W.ownsRow (Bn + 1) e size v k xs) (hBW : B ≤ W.heap.size) (hle : B ≤ Bn + 1)
    (hown' : w1.ownsRow (Bn + 1) e size v' m ys) (hgrow : (W.alloc tmp).grownBy w1 v.ownBlock) :
    Boxed w1 B t v ∧ Boxed (w1.setCell ⟨B, 0, none⟩ v') B t v' ∧ (w1.setCell ⟨B, 0, none⟩ v').ownsRow (Bn + 1) e size v' m ys ∧ KeepsOthers W (w1.setCell ⟨B, 0, none⟩ v') ∧ Below B W (w1.setCell ⟨B, 0, none⟩ v') ∧ KpL Bn l W (w1.setCell ⟨B, 0, none⟩ v') := by
  obtain ⟨a1, a2, _, a4, a5⟩ := hv.appended hte (own_mono hrow hle) hBW (Nat.le_refl _) (own_mono hown' hle) hgrow
  refine ⟨a1, a2, hown'.kept (grownBy_setCell' w1 B v') (.inr (a1.not_row hte hown').symm), a4, a5, fun hc => ?_⟩
  have h1 : (W.alloc tmp).cell? ⟨Bn, 0, none⟩ = some (.int .i64 l) := (World.grownBy_alloc W tmp none).cell hc (fun h => by cases h)
  have h2 := hgrow.cell h1 (fun h => by have := (hrow.lt Bn h.symm).1; omega)
  exact (grownBy_setCell' w1 B v').cell h2 (fun h => by cases h; exact hB rfl)
def pw (k : Nat) : Int := ([1, 2, 4, 8, 16, 32] : List Int).getD k 0

set_option maxRecDepth 100000 in
set_option maxHeartbeats 4000000 in
theorem iter_in (F : Fence) (n : Nat) (h6 : F.fn 13) (hro : F.round = none) (hn : 1 ≤ n) (ll Bn : Nat) (l : Int) (J Jx : List Int → World → Prop)
    (hY : ∀ pre x W, J pre W → pre.length < 5 → YieldAt F (n - 1) Tryd.prog ll #[.int .i64 x] W fun e W' =>
      (e = .returned (.bool true) ∧ J (pre ++ [x]) W' ∧ KpL Bn l W W') ∨ (e = .returned (.bool false) ∧ Jx (pre ++ [x]) W'))
    (W : World) (hC : W.cell? ⟨Bn, 0, none⟩ = some (.int .i64 l)) (h0 : J [] W) :
    CallsIn F n Tryd.prog 13 #[.func (.yield ll) #[] #[], .pointer (some ⟨Bn, 0, none⟩)] W fun e W' => (∃ v, e = .returned v) ∧
      ((∃ ys, ys = upto l 5 ∧ J ys W') ∨ (∃ pre, pre <+: upto l 5 ∧ Jx pre W')) := by
  have H0 := Lib.hid h0
  clear h0
  refine callsIn_of_wp Tryd.func13 rfl h6 ?_ hro
  simp only [Tryd.ntmps13, List.size_toArray, List.length_cons, List.length_nil, Nat.reduceAdd, Nat.reduceSub, Array.replicate_succ, Array.replicate_zero, List.push_toArray, List.append_toArray, List.nil_append, List.cons_append]
  gi_wp2
  gi_loopw [3] (fun p wr => ∃ k : Nat, p = .int .i64 (pw k) ∧ k ≤ 5 ∧ J (upto l k) wr ∧ wr.cell? ⟨Bn, 0, none⟩ = some (.int .i64 l)) (fun p _ => 32 - (intOf p).toNat)
  case atStart => exact ⟨0, rfl, by omega, H0.out, hC⟩
  case round =>
    obtain ⟨k, rfl, hk, hJs, hc⟩ := hrel
    have HJ := Lib.hid hJs
    clear hJs H0
    have hk5 : k = 0 ∨ k = 1 ∨ k = 2 ∨ k = 3 ∨ k = 4 ∨ k = 5 := by omega
    rcases hk5 with rfl | rfl | rfl | rfl | rfl | rfl
    · rw [show pw 0 = 1 from rfl]
      cases hb : (bits .and .i64 l 1 == 0) with
      | true =>
        have HB := Lib.hid hb
        gi_wp2
        go_roundw
        case rel => exact ⟨1, rfl, by omega, by rw [upto_miss l 0 1 rfl HB.out]; exact HJ.out, hc⟩
        case measure => simp [intOf]
      | false =>
        have HB := Lib.hid hb
        obtain ⟨fn, tmps, assign, body, hy, hR⟩ := hY (upto l 0) 1 wr HJ.out (Nat.lt_of_le_of_lt (upto_len l 0) (by omega))
        gi_wp2
        refine hR.mono ?_
        rintro e W3 (⟨rfl, hJ3, hk3⟩ | ⟨rfl, hJx3⟩)
        · have hc3 := hk3 hc
          have HJ3 := Lib.hid hJ3
          clear hJ3 hk3 hc
          gi_wp2
          go_roundw
          case rel => exact ⟨1, rfl, by omega, by rw [upto_hit l 0 1 rfl HB.out]; exact HJ3.out, hc3⟩
          case measure => simp [intOf]
        · gi_wp2
          refine bodyPost_ret (results_none rfl _ _ _) rfl ?_
          exact ⟨⟨_, rfl⟩, .inr ⟨upto l 0 ++ [1], by rw [← upto_hit l 0 1 rfl HB.out]; exact upto_prefix l 1, hJx3⟩⟩
    · rw [show pw 1 = 2 from rfl]
      cases hb : (bits .and .i64 l 2 == 0) with
      | true =>
        have HB := Lib.hid hb
        gi_wp2
        go_roundw
        case rel => exact ⟨2, rfl, by omega, by rw [upto_miss l 1 2 rfl HB.out]; exact HJ.out, hc⟩
        case measure => simp [intOf]
      | false =>
        have HB := Lib.hid hb
        obtain ⟨fn, tmps, assign, body, hy, hR⟩ := hY (upto l 1) 2 wr HJ.out (Nat.lt_of_le_of_lt (upto_len l 1) (by omega))
        gi_wp2
        refine hR.mono ?_
        rintro e W3 (⟨rfl, hJ3, hk3⟩ | ⟨rfl, hJx3⟩)
        · have hc3 := hk3 hc
          have HJ3 := Lib.hid hJ3
          clear hJ3 hk3 hc
          gi_wp2
          go_roundw
          case rel => exact ⟨2, rfl, by omega, by rw [upto_hit l 1 2 rfl HB.out]; exact HJ3.out, hc3⟩
          case measure => simp [intOf]
        · gi_wp2
          refine bodyPost_ret (results_none rfl _ _ _) rfl ?_
          exact ⟨⟨_, rfl⟩, .inr ⟨upto l 1 ++ [2], by rw [← upto_hit l 1 2 rfl HB.out]; exact upto_prefix l 2, hJx3⟩⟩
    · rw [show pw 2 = 4 from rfl]
      cases hb : (bits .and .i64 l 4 == 0) with
      | true =>
        have HB := Lib.hid hb
        gi_wp2
        go_roundw
        case rel => exact ⟨3, rfl, by omega, by rw [upto_miss l 2 4 rfl HB.out]; exact HJ.out, hc⟩
        case measure => simp [intOf]
      | false =>
        have HB := Lib.hid hb
        obtain ⟨fn, tmps, assign, body, hy, hR⟩ := hY (upto l 2) 4 wr HJ.out (Nat.lt_of_le_of_lt (upto_len l 2) (by omega))
        gi_wp2
        refine hR.mono ?_
        rintro e W3 (⟨rfl, hJ3, hk3⟩ | ⟨rfl, hJx3⟩)
        · have hc3 := hk3 hc
          have HJ3 := Lib.hid hJ3
          clear hJ3 hk3 hc
          gi_wp2
          go_roundw
          case rel => exact ⟨3, rfl, by omega, by rw [upto_hit l 2 4 rfl HB.out]; exact HJ3.out, hc3⟩
          case measure => simp [intOf]
        · gi_wp2
          refine bodyPost_ret (results_none rfl _ _ _) rfl ?_
          exact ⟨⟨_, rfl⟩, .inr ⟨upto l 2 ++ [4], by rw [← upto_hit l 2 4 rfl HB.out]; exact upto_prefix l 3, hJx3⟩⟩
    · rw [show pw 3 = 8 from rfl]
      cases hb : (bits .and .i64 l 8 == 0) with
      | true =>
        have HB := Lib.hid hb
        gi_wp2
        go_roundw
        case rel => exact ⟨4, rfl, by omega, by rw [upto_miss l 3 8 rfl HB.out]; exact HJ.out, hc⟩
        case measure => simp [intOf]
      | false =>
        have HB := Lib.hid hb
        obtain ⟨fn, tmps, assign, body, hy, hR⟩ := hY (upto l 3) 8 wr HJ.out (Nat.lt_of_le_of_lt (upto_len l 3) (by omega))
        gi_wp2
        refine hR.mono ?_
        rintro e W3 (⟨rfl, hJ3, hk3⟩ | ⟨rfl, hJx3⟩)
        · have hc3 := hk3 hc
          have HJ3 := Lib.hid hJ3
          clear hJ3 hk3 hc
          gi_wp2
          go_roundw
          case rel => exact ⟨4, rfl, by omega, by rw [upto_hit l 3 8 rfl HB.out]; exact HJ3.out, hc3⟩
          case measure => simp [intOf]
        · gi_wp2
          refine bodyPost_ret (results_none rfl _ _ _) rfl ?_
          exact ⟨⟨_, rfl⟩, .inr ⟨upto l 3 ++ [8], by rw [← upto_hit l 3 8 rfl HB.out]; exact upto_prefix l 4, hJx3⟩⟩
    · rw [show pw 4 = 16 from rfl]
      cases hb : (bits .and .i64 l 16 == 0) with
      | true =>
        have HB := Lib.hid hb
        gi_wp2
        go_roundw
        case rel => exact ⟨5, rfl, by omega, by rw [upto_miss l 4 16 rfl HB.out]; exact HJ.out, hc⟩
        case measure => simp [intOf]
      | false =>
        have HB := Lib.hid hb
        obtain ⟨fn, tmps, assign, body, hy, hR⟩ := hY (upto l 4) 16 wr HJ.out (Nat.lt_of_le_of_lt (upto_len l 4) (by omega))
        gi_wp2
        refine hR.mono ?_
        rintro e W3 (⟨rfl, hJ3, hk3⟩ | ⟨rfl, hJx3⟩)
        · have hc3 := hk3 hc
          have HJ3 := Lib.hid hJ3
          clear hJ3 hk3 hc
          gi_wp2
          go_roundw
          case rel => exact ⟨5, rfl, by omega, by rw [upto_hit l 4 16 rfl HB.out]; exact HJ3.out, hc3⟩
          case measure => simp [intOf]
        · gi_wp2
          refine bodyPost_ret (results_none rfl _ _ _) rfl ?_
          exact ⟨⟨_, rfl⟩, .inr ⟨upto l 4 ++ [16], by rw [← upto_hit l 4 16 rfl HB.out]; exact upto_prefix l 5, hJx3⟩⟩
    · rw [show pw 5 = 32 from rfl]
      gi_wp2
      go_end0
      exact ⟨⟨_, rfl⟩, .inl ⟨upto l 5, rfl, HJ.out⟩⟩

theorem iter_stops (F : Fence) (n : Nat) (h6 : F.fn 13) (hro : F.round = none) (hn : 1 ≤ n) (Bn : Nat) (l : Int) (w : World) (hBn : Bn < w.heap.size)
    (hc : w.cell? ⟨Bn, 0, none⟩ = some (.int .i64 l)) :
    SeqStopsK F n Tryd.prog 13 #[.pointer (some ⟨Bn, 0, none⟩)] (fun x : Int => #[Value.int .i64 x]) (KpL Bn l) (fun ys => ys = upto l 5) (fun pre => pre <+: upto l 5) 5 w := fun ll J Jx W hW _ _ hY h0 =>
  iter_in F n h6 hro hn ll Bn l J Jx hY W ((hW.cell (p := ⟨Bn, 0, none⟩) hBn).trans hc) h0

theorem bits_any (l : Int) (w : World) : Calls Tryd.prog 9 #[.int .i64 l] w fun e w' => e = .returned (.func (.func 13) #[] #[.pointer (some ⟨w.heap.size, 0, none⟩)]) ∧ w' = w.alloc (.cells #[.int .i64 l] 22) := by
  go_enter Tryd.func9, Tryd.ntmps9
  go_wp2
  go_ret
  exact ⟨rfl, rfl⟩

theorem info_lv : (Tryd.prog.info? 22).map (fun i => (i.zero, i.size, i.bytes)) = some (some (.int .i64 0), 1, 8) := by kernel_rfl
def LPost (l : Int) (w : World) (e : Ending) (W' : World) : Prop := ∃ v, e = .returned v ∧ W'.ownsRow w.heap.size 22 1 v (upto l 5).length ((upto l 5).map (Value.int .i64)) ∧ Below w.heap.size w W'
set_option maxRecDepth 100000 in
set_option maxHeartbeats 4000000 in
theorem list_in (l : Int) (w : World) : CallsIn Fence.wide 5 Tryd.prog 6 #[.int .i64 l] w (LPost l w) := by
  obtain ⟨i0, hi, hz0, hz1, hz2⟩ := info_parts info_lv
  refine callsIn_of_wp_marks Tryd.func6 rfl trivial ?_ rfl
  simp only [Tryd.ntmps6, List.size_toArray, List.length_cons, List.length_nil, Nat.reduceAdd, Nat.reduceSub, Array.replicate_succ, Array.replicate_zero, List.push_toArray, List.append_toArray, List.nil_append, List.cons_append]
  gi_wp2_with (refine ⟨trivial, ?_⟩; gi_at_call 9; refine ((callsIn_wide (n := 4)).2 (bits_any _ _)).mono ?_; rintro e w' ⟨rfl, rfl⟩)
  have bO := Boxed.new w 25 (.slice none 0 0)
  have bN := Boxed.new (w.alloc (.cells #[.slice none 0 0] 25)) 22 (.int .i64 l)
  rw [World.size_alloc] at bN
  have hB0 : Below w.heap.size w ((w.alloc (.cells #[.slice none 0 0] 25)).alloc (.cells #[.int .i64 l] 22)) := ((Below.refl _ w).alloc (Nat.le_refl _) _).alloc (by simp) _
  refine wpIn_rangeFunc_ownG rfl (show 1 ≤ 5 by omega) (gf := 13) (lb := #[.pointer (some ⟨w.heap.size + 1, 0, none⟩)]) rfl trivial (enters_of Tryd.func13 (by kernel_rfl) rfl)
    (iter_stops Fence.wide 4 trivial rfl (by omega) (w.heap.size + 1) l _ (by simp) bN.cell) kp_t (kp_b (by simp)) (Below.refl _ _) (fun _ => rfl)
    (fun (pre : List Int) W => (∃ v, Boxed W w.heap.size 25 v ∧ W.ownsRow (w.heap.size + 1 + 1) 22 1 v pre.length (pre.map (Value.int .i64)) ∧ True) ∧ Below w.heap.size w W ∧ w.heap.size + 2 ≤ W.heap.size)
    (fun _ _ _ => False)
    (OwnFrom.and (Own.from (holdsRow_own (w.heap.size + 1 + 1) w.heap.size 25 22 1 (fun pre : List Int => pre.length) (fun pre : List Int => pre.map (Value.int .i64)) (fun _ _ => True)) _) (OwnFrom.and (ownFrom_below (Nat.le_refl _) (by simp; omega)) (fun _ _ _ _ hs hg _ => Nat.le_trans hs hg.size)))
    (fun _ _ _ _ _ hs _ _ => hs)
    ⟨⟨_, bO.alloc _, World.ownsRow_nil _ _ _ _, trivial⟩, hB0, by simp⟩
    (fun x => { tmps := #[.int .i64 l, undef, .slice none 0 0, .pointer (some ⟨w.heap.size, 0, none⟩), .int .i64 x, .int .i64 l, .func (.func 13) #[] #[.pointer (some ⟨w.heap.size + 1, 0, none⟩)], .int .i64 x, undef, undef, undef, undef, undef], defers := [] }) ?assign ?body ?done ?stop
  case assign =>
    intro ll x W K hK
    gi_wp2
    exact hK
  case body =>
    rintro ll pre x W ⟨⟨v, hv, hrow, _⟩, hB, hS⟩ hlt
    have hc := hv.cell
    gi_wp2_with (gi_at_builtin; refine wpListIn_append_own _ rfl _ _ 25 rfl (w.heap.size + 1 + 1) 22 i0 (.int .i64 0) 1 8 Tryd.underlying25 hi hz0 hz1 hz2 rfl (by decide) _ _ _ rfl (hrow.alloc _) ⟨W.heap.size, 0, none⟩ 1 1 [.int .i64 x] rfl rfl (cell_one_new _ _ _) (by simp [Value.oneCell']) (by unfold maxLen; omega) (by omega) (by simp; omega) ?_; intro v' w1 hown' hgrow _; obtain ⟨g', cap', rfl⟩ := ownsRow_succ hown'; obtain ⟨hv1, hv2, hr2, hk2, hb2, hp2⟩ := app_kept (Bn := w.heap.size + 1) l (by omega) hv (by decide) hrow hB.size (by omega) hown' hgrow; have hc1 := hv1.cell; have hf1 := hv1.frozen)
    exact ⟨hk2.from _, hp2, ⟨_, hv2, by simpa using hr2, trivial⟩, hB.trans hb2, by have := hb2.size; omega⟩
  case done =>
    rintro D ys W hD rfl ⟨⟨v, hv, hrow, _⟩, hB, _⟩ hK
    have hc := hv.cell
    gi_wp2
    refine ⟨by simp, .inl ⟨_, _, rfl, run_takeDeferred hK, ?_⟩⟩
    exact ⟨_, results_tmp rfl _ _ _, v, rfl, own_mono (ownsRow_putObj hrow _ hK rfl) (by omega), hB.trans (belowK_b (w := w) (Nat.le_refl _) W D _ _ (by simp at hD; omega) hK rfl rfl)⟩
  case stop =>
    rintro D c pre W _ _ h _
    exact h.elim
theorem list_any (l : Int) (w : World) : Calls Tryd.prog 6 #[.int .i64 l] w (LPost l w) := callsIn_wide.1 (list_in l w)
end Go.Proofs.YtjhnnfbnfgaheaaDoor.bitsOf
