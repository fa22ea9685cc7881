/-
  Contracts of indexedKeys at a dense and at a sparse array. Conditions: at most 131072 elements; the table uint64pow10 holds what its initialiser lays.
-/
import Derived.Test.YtcemogndiblooaaDoorParse
import Derived.Test.YtcemogndiblooaaDoorShelf
import Derived.Lib.AppendIntMem
namespace Go.Proofs.YtcemogndiblooaaDoor.keys
open Go.ChangeShapes Go.WideShapes Go.ChangeAt Go.RowKit
open Go.Proofs.YtcemogndiblooaaDoor.own Go.Proofs.YtcemogndiblooaaDoor.vars Go.Proofs.YtcemogndiblooaaDoor.parse
set_option linter.unusedVariables false

/-- the value of an Indexed Variable -/
abbrev vr (l i : Value) : Value := .agg #[.bool true, .bool false, .bool false, .bool false, .int .u8 3, .string ⟨#[]⟩, l, .map none, i]
def itS (idx : Nat → Int) (i : Nat) : ByteArray := ⟨(Lib.itoa (idx i)).toArray⟩
def KPost (n : Nat) (idx : Nat → Int) (w : World) (e : Ending) (w' : World) : Prop :=
  ∃ g, e = .returned (.slice (some ⟨g, 0, none⟩) n n) ∧ (∀ i, i < n → w'.cell? ⟨g, i, none⟩ = some (.string (itS idx i))) ∧ Below w.heap.size w w'
theorem tab_below {B : Nat} {W W' : World} {k : IntKind} {zs : List Int} (h : Below B W W') (hgB : 0 < B) (hv : Lib.TabIs Tryd.prog W "internal/strconv.uint64pow10" k zs) : Lib.TabIs Tryd.prog W' "internal/strconv.uint64pow10" k zs := by
  unfold Lib.TabIs World.var? at hv ⊢
  have hg : Tryd.prog.globalNamed "internal/strconv.uint64pow10" = some 0 := by kernel_rfl
  simp only [hg, Option.bind_some] at hv ⊢
  rw [h.block 0 hgB]; exact hv
theorem fill_below {g B : Nat} {e : TypeId} {vs : List Value} {z : Value} {w : World} {k : Nat} {wr wr' : World} (h : Filling g B e vs z w k wr) (hb : Below wr.heap.size wr wr') (hg : g < wr.heap.size) : Filling g B e vs z w k wr' :=
  ⟨h.1.kept (row := none) ⟨hb.os, hb.tape, hb.output, hb.size, fun k hk _ => hb.block k hk⟩ (.inr (by simp [Value.ownBlock])), h.2.1.trans (hb.mono h.2.2), Nat.le_trans h.2.2 hb.size⟩
theorem fill_cells {g B n : Nat} {e : TypeId} {f : Nat → ByteArray} {z : Value} {w wr : World} (h : Filling g B e (strsV f n) z w n wr) (hl : (strsV f n).length = n) : ∀ i, i < n → wr.cell? ⟨g, i, none⟩ = some (.string (f i)) := by
  intro i hi
  have h' : Filling g B e (strsV f n) z w (strsV f n).length wr := by rw [hl]; exact h
  rw [h'.done.cellAt i (by omega)]; exact strsV_get _ _ _ hi
set_option maxHeartbeats 4000000 in
theorem keysD13 (la : Option Addr) (n lc : Nat) (w : World) (hn : n ≤ 131072) (hg0 : 0 < w.heap.size) (ht : Lib.TabIs Tryd.prog w "internal/strconv.uint64pow10" .u64 Lib.pow10Tab) :
    Calls Tryd.prog 13 #[vr (.slice la n lc) (.slice none 0 0)] w (KPost n (fun i => (i : Int)) w) := by
  obtain ⟨i0, hi, hz0, hz1, hz2⟩ := info_parts cloneS_info
  have hq := fun w => run_neq_slice_nil_any (P := Tryd.prog) w 23 3 none 0 0 0 0 Tryd.underlying23
  have HTb := Lib.hid ht
  have HL := Lib.hid (strsV_length (itS (fun i => (i : Int))) n)
  clear ht
  go_enter Tryd.func13, Tryd.ntmps13
  go_wp2_with (at_make; refine wpList_make_full _ rfl _ _ 22 rfl (w.heap.size + 1) 9 i0 (.string ⟨#[]⟩) 1 Tryd.underlying22 hi hz0 hz1 .i64 .i64 _ _ n rfl rfl ?c0 ?c1 ?c2 ?c3 ?c4 ?_)
  case c0 => rfl
  case c1 => rfl
  case c2 => rw [hz2]; omega
  case c3 => unfold maxLen; omega
  case c4 => simp
  intro w1 hown hgrow
  obtain ⟨w0, hw0⟩ : ∃ w0 : World, w0 = w.alloc (.cells #[.bool true, .bool false, .bool false, .bool false, .int .u8 3, .string ⟨#[]⟩, .slice la n lc, .map none, .slice none 0 0] 33) := ⟨_, rfl⟩
  rw [← hw0] at hgrow
  have z0 : w0.heap.size = w.heap.size + 1 := by rw [hw0]; simp
  have e6 : w0.cell? ⟨w.heap.size, 6, none⟩ = some (.slice la n lc) := by rw [hw0]; simp
  have e8 : w0.cell? ⟨w.heap.size, 8, none⟩ = some (.slice none 0 0) := by rw [hw0]; simp
  have hb0 : Below w.heap.size w w0 := by rw [hw0]; exact (Below.refl _ _).alloc (Nat.le_refl _) _
  have HB0 := Lib.hid hb0
  have hown' : w1.ownsRow (w.heap.size + 1) 9 1 (.slice (some ⟨w.heap.size + 1, 0, none⟩) n n) n (madeCells #[.string ⟨#[]⟩] n).toList := by simpa using hown
  have HR := Lib.hid (Filling.start (vs := strsV (itS (fun i => (i : Int))) n) (z := .string ⟨#[]⟩) HL.out (Below.refl (w.heap.size + 1) w0) (by omega) hown' hgrow)
  have e16 : w1.cell? ⟨w.heap.size, 6, none⟩ = some (.slice la n lc) := cb HR.out.2.1 (show w.heap.size < w.heap.size + 1 by omega) e6
  have E8 := Lib.hid e8
  clear hown hgrow hown' hw0 hb0 e6 e8
  have Z0 := Lib.hid z0
  clear z0
  go_wp2
  go_loopw [12] (fun i wr => ∃ j : Nat, j ≤ n ∧ i = .int .i64 j ∧ Filling (w.heap.size + 1) (w.heap.size + 1) 9 (strsV (itS (fun i => (i : Int))) n) (.string ⟨#[]⟩) w0 j wr) (fun i _ => n - (intOf i).toNat)
  case atStart => exact ⟨0, by omega, rfl, HR.out⟩
  case round =>
    obtain ⟨j, hj, rfl, hr⟩ := hrel
    have H := Lib.hid hr
    clear hr HR e16
    by_cases hlt : j < n
    · have c8 := cb H.out.2.1 (show w.heap.size < w.heap.size + 1 by omega) E8.out
      have htab : Lib.TabIs Tryd.prog wr "internal/strconv.uint64pow10" .u64 Lib.pow10Tab := tab_below H.out.2.1 (by omega) (tab_below HB0.out hg0 HTb.out)
      have HT2 := Lib.hid htab
      clear htab
      go_wp2_with fail
      with_reducible refine (Tryd.strconv_Itoa _ (by omega) (by omega) _ HT2.out).mono ?_
      rintro e w2 ⟨rfl, k2, os2, hw2⟩
      have hb2 : Below wr.heap.size wr w2 := by rw [hw2]; exact Lib.below_grow _ _ (Nat.le_refl _) _ _
      have F2 := Lib.hid (fill_below H.out hb2 (World.ownsRow.lt H.out.1 _ rfl).2)
      clear hw2 hb2
      have c0 := F2.out.cell (by rw [HL.out]; exact hlt)
      have f0 := F2.out.free
      have R := Lib.hid (F2.out.store (Nat.le_refl _) (.string (itS (fun i => (i : Int)) j)) (strsV_get _ _ _ hlt))
      go_wp2
      go_roundw
      case rel => exact ⟨j + 1, by omega, by go_num, R.out⟩
      case measure => simp [intOf]; omega
    · obtain rfl : j = n := by omega
      have HD := Lib.hid (fill_cells H.out HL.out)
      have HBw := Lib.hid (HB0.out.trans (H.out.2.1.mono (by omega)))
      go_wp2
      go_ret
      exact ⟨_, rfl, HD.out, HBw.out⟩
set_option maxHeartbeats 1000000 in
theorem keysD (la : Option Addr) (n lc : Nat) (w : World) (hn : n ≤ 131072) (hg0 : 0 < w.heap.size) (ht : Lib.TabIs Tryd.prog w "internal/strconv.uint64pow10" .u64 Lib.pow10Tab) :
    Calls Tryd.prog 10 #[vr (.slice la n lc) (.slice none 0 0)] w (KPost n (fun i => (i : Int)) w) := by
  have HTb := Lib.hid ht
  clear ht
  go_enter Tryd.func10, Tryd.ntmps10
  go_wp2_with fail
  have hb0 : Below w.heap.size w (w.alloc (.cells #[.bool true, .bool false, .bool false, .bool false, .int .u8 3, .string ⟨#[]⟩, .slice la n lc, .map none, .slice none 0 0] 33)) := (Below.refl _ _).alloc (Nat.le_refl _) _
  with_reducible refine (keysD13 la n lc  _ hn  (by simp) (tab_below hb0 hg0 HTb.out)).mono ?_
  rintro e w2 ⟨g, rfl, hc, hb⟩
  have HC := Lib.hid hc
  have HB := Lib.hid (hb0.trans (hb.mono (by simp)))
  clear hc hb hb0
  go_wp2
  go_ret
  exact ⟨_, rfl, HC.out, HB.out⟩

set_option maxHeartbeats 4000000 in
theorem keysS13 (la : Option Addr) (n lc : Nat) (ib io ic : Nat) (g : Nat → Int) (w : World) (hn : n ≤ 131072) (hx : ∀ i, i < n → w.cell? ⟨ib, io + i, none⟩ = some (.int .i64 (g i)) ∧ -9223372036854775808 ≤ g i ∧ g i ≤ 9223372036854775807) (hg0 : 0 < w.heap.size) (ht : Lib.TabIs Tryd.prog w "internal/strconv.uint64pow10" .u64 Lib.pow10Tab) :
    Calls Tryd.prog 13 #[vr (.slice la n lc) (.slice (some ⟨ib, io, none⟩) n ic)] w (KPost n (g) w) := by
  obtain ⟨i0, hi, hz0, hz1, hz2⟩ := info_parts cloneS_info
  have hq := fun w => run_neq_slice_nil_any (P := Tryd.prog) w 23 3 (some ⟨ib, io, none⟩) n ic 0 0 Tryd.underlying23
  have HX := Lib.hid hx
  clear hx
  have HTb := Lib.hid ht
  have HL := Lib.hid (strsV_length (itS (g)) n)
  clear ht
  go_enter Tryd.func13, Tryd.ntmps13
  go_wp2_with (at_make; refine wpList_make_full _ rfl _ _ 22 rfl (w.heap.size + 1) 9 i0 (.string ⟨#[]⟩) 1 Tryd.underlying22 hi hz0 hz1 .i64 .i64 _ _ n rfl rfl ?c0 ?c1 ?c2 ?c3 ?c4 ?_)
  case c0 => rfl
  case c1 => rfl
  case c2 => rw [hz2]; omega
  case c3 => unfold maxLen; omega
  case c4 => simp
  intro w1 hown hgrow
  obtain ⟨w0, hw0⟩ : ∃ w0 : World, w0 = w.alloc (.cells #[.bool true, .bool false, .bool false, .bool false, .int .u8 3, .string ⟨#[]⟩, .slice la n lc, .map none, .slice (some ⟨ib, io, none⟩) n ic] 33) := ⟨_, rfl⟩
  rw [← hw0] at hgrow
  have z0 : w0.heap.size = w.heap.size + 1 := by rw [hw0]; simp
  have e6 : w0.cell? ⟨w.heap.size, 6, none⟩ = some (.slice la n lc) := by rw [hw0]; simp
  have e8 : w0.cell? ⟨w.heap.size, 8, none⟩ = some (.slice (some ⟨ib, io, none⟩) n ic) := by rw [hw0]; simp
  have hb0 : Below w.heap.size w w0 := by rw [hw0]; exact (Below.refl _ _).alloc (Nat.le_refl _) _
  have HB0 := Lib.hid hb0
  have hown' : w1.ownsRow (w.heap.size + 1) 9 1 (.slice (some ⟨w.heap.size + 1, 0, none⟩) n n) n (madeCells #[.string ⟨#[]⟩] n).toList := by simpa using hown
  have HR := Lib.hid (Filling.start (vs := strsV (itS (g)) n) (z := .string ⟨#[]⟩) HL.out (Below.refl (w.heap.size + 1) w0) (by omega) hown' hgrow)
  have e16 : w1.cell? ⟨w.heap.size, 6, none⟩ = some (.slice la n lc) := cb HR.out.2.1 (show w.heap.size < w.heap.size + 1 by omega) e6
  have E8 := Lib.hid e8
  clear hown hgrow hown' hw0 hb0 e6 e8
  have Z0 := Lib.hid z0
  clear z0
  go_wp2
  go_loopw [12] (fun i wr => ∃ j : Nat, j ≤ n ∧ i = .int .i64 j ∧ Filling (w.heap.size + 1) (w.heap.size + 1) 9 (strsV (itS (g)) n) (.string ⟨#[]⟩) w0 j wr) (fun i _ => n - (intOf i).toNat)
  case atStart => exact ⟨0, by omega, rfl, HR.out⟩
  case round =>
    obtain ⟨j, hj, rfl, hr⟩ := hrel
    have H := Lib.hid hr
    clear hr HR e16
    by_cases hlt : j < n
    · have c8 := cb H.out.2.1 (show w.heap.size < w.heap.size + 1 by omega) E8.out
      have htab : Lib.TabIs Tryd.prog wr "internal/strconv.uint64pow10" .u64 Lib.pow10Tab := tab_below H.out.2.1 (by omega) (tab_below HB0.out hg0 HTb.out)
      have HT2 := Lib.hid htab
      clear htab
      obtain ⟨x1, x2, x3⟩ := HX.out j hlt
      have c9 := cb H.out.2.1 (by have := cell_lt x1; omega) (cb HB0.out (cell_lt x1) x1)
      obtain ⟨y, hy⟩ : ∃ y, y = g j := ⟨_, rfl⟩
      rw [← hy] at c9 x2 x3
      have HY := Lib.hid hy
      clear hy x1
      go_wp2_with fail
      with_reducible refine (Tryd.strconv_Itoa _ (by omega) (by omega) _ HT2.out).mono ?_
      rintro e w2 ⟨rfl, k2, os2, hw2⟩
      have hb2 : Below wr.heap.size wr w2 := by rw [hw2]; exact Lib.below_grow _ _ (Nat.le_refl _) _ _
      have F2 := Lib.hid (fill_below H.out hb2 (World.ownsRow.lt H.out.1 _ rfl).2)
      clear hw2 hb2
      have c0 := F2.out.cell (by rw [HL.out]; exact hlt)
      have f0 := F2.out.free
      have R := Lib.hid (F2.out.store (Nat.le_refl _) (.string (itS (fun _ => y) j)) (by rw [strsV_get _ _ _ hlt]; unfold itS; rw [HY.out]))
      go_wp2
      go_roundw
      case rel => exact ⟨j + 1, by omega, by go_num, R.out⟩
      case measure => simp [intOf]; omega
    · obtain rfl : j = n := by omega
      have HD := Lib.hid (fill_cells H.out HL.out)
      have HBw := Lib.hid (HB0.out.trans (H.out.2.1.mono (by omega)))
      go_wp2
      go_ret
      exact ⟨_, rfl, HD.out, HBw.out⟩
set_option maxHeartbeats 1000000 in
theorem keysS (la : Option Addr) (n lc : Nat) (ib io ic : Nat) (g : Nat → Int) (w : World) (hn : n ≤ 131072) (hx : ∀ i, i < n → w.cell? ⟨ib, io + i, none⟩ = some (.int .i64 (g i)) ∧ -9223372036854775808 ≤ g i ∧ g i ≤ 9223372036854775807) (hg0 : 0 < w.heap.size) (ht : Lib.TabIs Tryd.prog w "internal/strconv.uint64pow10" .u64 Lib.pow10Tab) :
    Calls Tryd.prog 10 #[vr (.slice la n lc) (.slice (some ⟨ib, io, none⟩) n ic)] w (KPost n (g) w) := by
  have HTb := Lib.hid ht
  have HX := Lib.hid hx
  clear ht hx
  go_enter Tryd.func10, Tryd.ntmps10
  go_wp2_with fail
  have hb0 : Below w.heap.size w (w.alloc (.cells #[.bool true, .bool false, .bool false, .bool false, .int .u8 3, .string ⟨#[]⟩, .slice la n lc, .map none, .slice (some ⟨ib, io, none⟩) n ic] 33)) := (Below.refl _ _).alloc (Nat.le_refl _) _
  with_reducible refine (keysS13 la n lc ib io ic g _ hn (fun i hi => ⟨cb hb0 (cell_lt (HX.out i hi).1) (HX.out i hi).1, (HX.out i hi).2⟩) (by simp) (tab_below hb0 hg0 HTb.out)).mono ?_
  rintro e w2 ⟨g, rfl, hc, hb⟩
  have HC := Lib.hid hc
  have HB := Lib.hid (hb0.trans (hb.mono (by simp)))
  clear hc hb hb0
  go_wp2
  go_ret
  exact ⟨_, rfl, HC.out, HB.out⟩

end Go.Proofs.YtcemogndiblooaaDoor.keys
