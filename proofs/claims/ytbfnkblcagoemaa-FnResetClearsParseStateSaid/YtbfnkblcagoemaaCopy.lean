/-
  What zzCloneBytes, zzCloneBytes2 and zzCopyDirty do: new rows with the same bytes; nothing that was there changes. Conditions: at most 2^20 elements each.
-/
import Derived.Test.YtbfnkblcagoemaaDirty
import Derived.Laws.CopyOwn
import Derived.Laws.Tables
import Derived.Lib.SliceRun
namespace Go.Proofs.Ytbfnkblcagoemaa.dirty
open Go.ChangeShapes Go.WideShapes Go.ChangeAt Go.RowKit Go.Proofs.Ytbfnkblcagoemaa.own
set_option linter.unusedVariables false
theorem cloneB_info : (Try.prog.info? 5).map (fun i => (i.zero, i.size, i.bytes)) = some (some (.int .u8 0), 1, 1) := by kernel_rfl
theorem cloneB_nil (w : World) : Calls Try.prog 12 #[.slice none 0 0] w fun e w' => e = .returned (.slice none 0 0) ∧ w = w' := by
  have hq := fun w => Lib.run_eql_slice_nil (P := Try.prog) w 23 5 none 0 0 0 0 Try.underlying23
  go_enter Try.func12, Try.ntmps12
  go_wp2
  go_ret
  exact ⟨rfl, rfl⟩
theorem cloneB_empty (a : Addr) (cap : Nat) (w : World) : Calls Try.prog 12 #[.slice (some a) 0 cap] w fun e w' => e = .returned (.slice (some ⟨w.heap.size, 0, none⟩) 0 0) ∧ w.heap.size < w'.heap.size ∧ Below w.heap.size w w' := by
  have hq := fun w => Lib.run_eql_slice_nil (P := Try.prog) w 23 5 (some a) 0 cap 0 0 Try.underlying23
  obtain ⟨i0, hi, hz0, hz1, hz2⟩ := info_parts cloneB_info
  go_enter Try.func12, Try.ntmps12
  go_wp2_with (at_make; refine wpList_make_full _ rfl _ _ 23 rfl w.heap.size 5 i0 (.int .u8 0) 1 Try.underlying23 hi hz0 hz1 .i64 .i64 _ _ 0 rfl rfl ?c0 ?c1 ?c2 ?c3 ?c4 ?_)
  case c0 => rfl
  case c1 => rfl
  case c2 => rw [hz2]; omega
  case c3 => unfold maxLen; omega
  case c4 => exact Nat.le_refl _
  intro w1 hown hgrow
  have HB := Lib.hid (show Below w.heap.size w w1 from (Below.refl _ _).grown hgrow (Nat.le_refl _) (fun k h => by cases h))
  have HZ := Lib.hid (World.ownsRow.lt hown _ rfl).2
  clear hown hgrow
  go_wp2
  refine wp_loop_rounds 1 ?_
  rw [rounds_succ]
  go_wp2
  go_ret
  exact ⟨rfl, HZ.out, HB.out⟩
set_option maxHeartbeats 1000000 in
theorem cloneB_row (b off n cap : Nat) (f : Nat → Int) (w : World) (hn : n ≤ 1048576) (hc : ∀ i, i < n → w.cell? ⟨b, off + i, none⟩ = some (.int .u8 (f i))) :
    Calls Try.prog 12 #[.slice (some ⟨b, off, none⟩) n cap] w fun e w' => e = .returned (.slice (some ⟨w.heap.size, 0, none⟩) n n) ∧
      w'.ownsRow w.heap.size 5 1 (.slice (some ⟨w.heap.size, 0, none⟩) n n) n (intsV .u8 f n) ∧ Below w.heap.size w w' := by
  have hq := fun w => Lib.run_eql_slice_nil (P := Try.prog) w 23 5 (some ⟨b, off, none⟩) n cap 0 0 Try.underlying23
  obtain ⟨i0, hi, hz0, hz1, hz2⟩ := info_parts cloneB_info
  have HC := Lib.hid hc
  have HL := Lib.hid (intsV_length .u8 f n)
  clear hc
  go_enter Try.func12, Try.ntmps12
  go_wp2_with (at_make; refine wpList_make_full _ rfl _ _ 23 rfl w.heap.size 5 i0 (.int .u8 0) 1 Try.underlying23 hi hz0 hz1 .i64 .i64 _ _ n rfl rfl ?c0 ?c1 ?c2 ?c3 ?c4 ?_)
  case c0 => rfl
  case c1 => rfl
  case c2 => rw [hz2]; omega
  case c3 => unfold maxLen; omega
  case c4 => exact Nat.le_refl _
  intro w1 hown hgrow
  have HR := Lib.hid (Filling.start (vs := intsV .u8 f n) (z := .int .u8 0) HL.out (Below.refl w.heap.size w) (Nat.le_refl _) hown hgrow)
  clear hown hgrow
  go_wp2
  go_loopw [4] (fun i wr => ∃ j : Nat, j ≤ n ∧ i = .int .i64 j ∧ Filling w.heap.size w.heap.size 5 (intsV .u8 f n) (.int .u8 0) w j wr) (fun i _ => n - (intOf i).toNat)
  case atStart => exact ⟨0, by omega, rfl, HR.out⟩
  case round =>
    obtain ⟨j, hj, rfl, hr⟩ := hrel
    have H := Lib.hid hr
    clear hr HR
    by_cases hlt : j < n
    · have c0 := H.out.cell (by rw [HL.out]; exact hlt)
      have f0 := H.out.free
      have l0 := cb H.out.2.1 (by exact cell_lt (HC.out j hlt)) (HC.out j hlt)
      have R := Lib.hid (H.out.store (Nat.le_refl _) (.int .u8 (f j)) (intsV_get .u8 f n j hlt))
      go_wp2
      go_roundw
      case rel => exact ⟨j + 1, by omega, by go_num, R.out⟩
      case measure => simp [intOf]; omega
    · obtain rfl : j = n := by omega
      have HD := Lib.hid (show wr.ownsRow w.heap.size 5 1 (.slice (some ⟨w.heap.size, 0, none⟩) j j) j (intsV .u8 f j) by
        have h := H.out
        have h' : Filling w.heap.size w.heap.size 5 (intsV .u8 f j) (.int .u8 0) w (intsV .u8 f j).length wr := by rw [HL.out]; exact h
        have h2 := h'.done
        rw [HL.out] at h2; exact h2)
      go_wp2
      go_ret
      exact ⟨rfl, HD.out, H.out.2.1⟩


/-- a slice of bytes that came in: nil, empty, or a row of bytes f -/
def BR (w : World) (x : SL) (f : Nat → UInt8) : Prop :=
  (x.a = none ∧ x.n = 0 ∧ x.c = 0) ∨ ∃ a, x.a = some a ∧ (x.n = 0 ∨ ∃ b off, a = ⟨b, off, none⟩ ∧ ∀ i, i < x.n → w.cell? ⟨b, off + i, none⟩ = some (.int .u8 ((f i).toNat : Int)))
theorem BR.below {w w' : World} {x : SL} {f : Nat → UInt8} (h : BR w x f) {B : Nat} (hb : Below B w w') (hB : w.heap.size ≤ B) : BR w' x f := by
  rcases h with h | ⟨a, ha, h | ⟨b, off, he, hc⟩⟩
  · exact .inl h
  · exact .inr ⟨a, ha, .inl h⟩
  · exact .inr ⟨a, ha, .inr ⟨b, off, he, fun i hi => cb hb (Nat.lt_of_lt_of_le (cell_lt (hc i hi)) hB) (hc i hi)⟩⟩
/-- a slice of bytes of the call's own: nil, or the bytes l in a block from B on -/
def NB (B : Nat) (x : SL) (l : List UInt8) (w : World) : Prop :=
  (x = ⟨none, 0, 0⟩ ∧ l = []) ∨ ∃ g, x = ⟨some ⟨g, 0, none⟩, l.length, l.length⟩ ∧ B ≤ g ∧ g < w.heap.size ∧ ∀ j (hj : j < l.length), w.cell? ⟨g, j, none⟩ = some (.int .u8 (l[j].toNat : Int))
theorem NB.below {B : Nat} {x : SL} {l : List UInt8} {w w' : World} (h : NB B x l w) {C : Nat} (hb : Below C w w') (hC : w.heap.size ≤ C) : NB B x l w' := by
  rcases h with h | ⟨g, hx, h1, h2, hc⟩
  · exact .inl h
  · exact .inr ⟨g, hx, h1, Nat.lt_of_lt_of_le h2 hb.size, fun j hj => cb hb (Nat.lt_of_lt_of_le h2 hC) (hc j hj)⟩
theorem SL.eta (x : SL) : Value.slice x.a x.n x.c = x.v := rfl
def Cl (w : World) (e : Ending) (w' : World) : Prop := ∃ y l, e = .returned (.slice y.a y.n y.c) ∧ NB w.heap.size y l w' ∧ Below w.heap.size w w'
theorem cloneB_any (x : SL) (f : Nat → UInt8) (w : World) (hn : x.n ≤ 1048576) (h : BR w x f) : Calls Try.prog 12 #[.slice x.a x.n x.c] w (Cl w) := by
  rcases h with ⟨ha, h0, hc⟩ | ⟨a, ha, h0 | ⟨b, off, he, hc⟩⟩
  · rw [ha, h0, hc]
    refine (cloneB_nil w).mono ?_
    rintro e w' ⟨rfl, rfl⟩
    exact ⟨⟨none, 0, 0⟩, [], rfl, .inl ⟨rfl, rfl⟩, Below.refl _ _⟩
  · rw [ha, h0]
    refine (cloneB_empty a x.c w).mono ?_
    rintro e w' ⟨rfl, hg, hb⟩
    exact ⟨⟨some ⟨w.heap.size, 0, none⟩, 0, 0⟩, [], rfl, .inr ⟨w.heap.size, rfl, Nat.le_refl _, hg, fun j hj => absurd hj (Nat.not_lt_zero _)⟩, hb⟩
  · rw [ha, he]
    refine (cloneB_row b off x.n x.c (fun i => ((f i).toNat : Int)) w hn hc).mono ?_
    rintro e w' ⟨rfl, ho, hb⟩
    have hl : ((List.range x.n).map f).length = x.n := by simp
    refine ⟨⟨some ⟨w.heap.size, 0, none⟩, x.n, x.n⟩, (List.range x.n).map f, rfl, .inr ⟨w.heap.size, by rw [hl], Nat.le_refl _, (World.ownsRow.lt ho _ rfl).2, fun j hj => ?_⟩, hb⟩
    rw [hl] at hj
    rw [ho.cellAt j (by omega), intsV_get _ _ _ _ hj]
    simp
theorem fill_swap {g B : Nat} {e : TypeId} {vs vs' : List Value} {z : Value} {w : World} {k : Nat} {wr : World} (h : Filling g B e vs z w k wr) (hl : vs'.length = vs.length) (ht : vs'.take k = vs.take k) : Filling g B e vs' z w k wr := by
  unfold Filling fillL at *
  rw [hl, ht]; exact h
theorem fill_below {g B : Nat} {e : TypeId} {vs : List Value} {z : Value} {w : World} {k : Nat} {wr wr' : World} (h : Filling g B e vs z w k wr) (hb : Below wr.heap.size wr wr') : Filling g B e vs z w k wr' :=
  ⟨h.1.kept (row := none) ⟨hb.os, hb.tape, hb.output, hb.size, fun k hk _ => hb.block k hk⟩ (.inr (by simp [Value.ownBlock])), h.2.1.trans (hb.mono h.2.2), Nat.le_trans h.2.2 hb.size⟩
theorem slice_info : (Try.prog.info? 23).map (fun i => (i.zero, i.size, i.bytes)) = some (some (.slice none 0 0), 1, 24) := by kernel_rfl
/-- a slice of slices of bytes that came in -/
def NR (w : World) (x : SL) (s : Nat → SL) (f : Nat → Nat → UInt8) : Prop :=
  (x.a = none ∧ x.n = 0 ∧ x.c = 0) ∨ ∃ a, x.a = some a ∧ (x.n = 0 ∨ ∃ b off, a = ⟨b, off, none⟩ ∧ ∀ i, i < x.n → w.cell? ⟨b, off + i, none⟩ = some (.slice (s i).a (s i).n (s i).c) ∧ BR w (s i) (f i))
def Sl (w : World) (e : Ending) (w' : World) : Prop := ∃ a n c, e = .returned (.slice a n c) ∧ Below w.heap.size w w'
theorem clone2_nil (w : World) : Calls Try.prog 34 #[.slice none 0 0] w (Sl w) := by
  have hq := fun w => Lib.run_eql_slice_nil (P := Try.prog) w 25 23 none 0 0 0 0 Try.underlying25
  go_enter Try.func34, Try.ntmps34
  go_wp2
  go_ret
  exact ⟨_, _, _, rfl, Below.refl _ _⟩
def InvS (n : Nat) (w : World) (j : Nat) (wr : World) : Prop := ∃ vs : List Value, vs.length = n ∧ Filling w.heap.size w.heap.size 23 vs (.slice none 0 0) w j wr
set_option maxHeartbeats 4000000 in
theorem clone2_row (a : Addr) (n c : Nat) (s : Nat → SL) (f : Nat → Nat → UInt8) (w : World) (hn : n ≤ 1048576) (hs : ∀ i, i < n → (s i).n ≤ 1048576)
    (h : n = 0 ∨ ∃ b off, a = ⟨b, off, none⟩ ∧ ∀ i, i < n → w.cell? ⟨b, off + i, none⟩ = some (.slice (s i).a (s i).n (s i).c) ∧ BR w (s i) (f i)) :
    Calls Try.prog 34 #[.slice (some a) n c] w (Sl w) := by
  have hq := fun w => Lib.run_eql_slice_nil (P := Try.prog) w 25 23 (some a) n c 0 0 Try.underlying25
  obtain ⟨i0, hi, hz0, hz1, hz2⟩ := info_parts slice_info
  have HH := Lib.hid h
  have HS := Lib.hid hs
  clear h hs
  go_enter Try.func34, Try.ntmps34
  go_wp2_with (at_make; refine wpList_make_full _ rfl _ _ 25 rfl w.heap.size 23 i0 (.slice none 0 0) 1 Try.underlying25 hi hz0 hz1 .i64 .i64 _ _ n rfl rfl ?c0 ?c1 ?c2 ?c3 ?c4 ?_)
  case c0 => rfl
  case c1 => rfl
  case c2 => rw [hz2]; omega
  case c3 => unfold maxLen; omega
  case c4 => exact Nat.le_refl _
  intro w1 hown hgrow
  have HR := Lib.hid (show InvS n w 0 w1 from ⟨List.replicate n (.slice none 0 0), by simp, Filling.start (vs := List.replicate n (.slice none 0 0)) (z := .slice none 0 0) (by simp) (Below.refl w.heap.size w) (Nat.le_refl _) hown hgrow⟩)
  clear hown hgrow
  go_wp2
  go_loopw [4] (fun i wr => ∃ j : Nat, j ≤ n ∧ i = .int .i64 j ∧ InvS n w j wr) (fun i _ => n - (intOf i).toNat)
  case atStart => exact ⟨0, by omega, rfl, HR.out⟩
  case round =>
    obtain ⟨j, hj, rfl, hr⟩ := hrel
    have H := Lib.hid hr
    clear hr HR
    by_cases hlt : j < n
    · rcases HH.out with h0 | ⟨b, off, rfl, hc⟩
      · omega
      obtain ⟨vs, hvl, hF⟩ := H.out
      have c1 := cb hF.2.1 (cell_lt (hc j hlt).1) (hc j hlt).1
      have HBR := Lib.hid ((hc j hlt).2.below hF.2.1 (Nat.le_refl _))
      have hsj := HS.out j hlt
      have HF := Lib.hid hF
      have HVL := Lib.hid hvl
      clear hc hF hvl
      go_wp2_with fail
      with_reducible refine (cloneB_any (s j) (f j) _ hsj HBR.out).mono ?_
      rintro e w2 ⟨y, l, rfl, hnb, hb2⟩
      have F3 := Lib.hid (fill_swap (fill_below HF.out hb2) (vs' := vs.set j (.slice y.a y.n y.c)) (by simp) (by rw [List.take_set_of_le (Nat.le_refl _)]))
      have hj3 : j < (vs.set j (.slice y.a y.n y.c)).length := by rw [List.length_set, HVL.out]; exact hlt
      have c0 := F3.out.cell hj3
      have f0 := F3.out.free
      have hg3 : (vs.set j (.slice y.a y.n y.c))[j]? = some (.slice y.a y.n y.c) := by rw [List.getElem?_set_self (by rw [HVL.out]; exact hlt)]
      have R := Lib.hid (show InvS n w (j + 1) (w2.setCell ⟨w.heap.size, j, none⟩ (.slice y.a y.n y.c)) from ⟨_, by rw [List.length_set, HVL.out], F3.out.store (Nat.le_refl _) _ hg3⟩)
      clear hnb hb2 hj3 hg3 F3
      go_wp2
      go_roundw
      case rel => exact ⟨j + 1, by omega, by go_num, R.out⟩
      case measure => simp [intOf]; omega
    · obtain rfl : j = n := by omega
      obtain ⟨vs, hvl, hF⟩ := H.out
      have HB := Lib.hid hF.2.1
      clear hvl hF
      go_wp2
      go_ret
      exact ⟨_, _, _, rfl, HB.out⟩
theorem clone2_any (x : SL) (s : Nat → SL) (f : Nat → Nat → UInt8) (w : World) (hn : x.n ≤ 1048576) (hs : ∀ i, i < x.n → (s i).n ≤ 1048576) (h : NR w x s f) : Calls Try.prog 34 #[.slice x.a x.n x.c] w (Sl w) := by
  rcases h with ⟨ha, h0, hc⟩ | ⟨a, ha, h⟩
  · rw [ha, h0, hc]; exact clone2_nil w
  · rw [ha]; exact clone2_row a x.n x.c s f w hn hs h
def D0 : DS := ⟨0, ⟨#[]⟩, 0, ⟨none, 0, 0⟩, 0, 0, 0, 0, 0, 0, false, false, false, 0, false, 0, 0, false, 0, 0, ⟨none, 0, 0⟩, false, 0, 0, 0, 0, 0, ⟨none, 0, 0⟩, false, 0, 0, false⟩
theorem arr_size (d : DS) : d.arr.size = 32 := rfl
theorem arr_one (d : DS) : d.arr.all (·.oneCell') = true := by simp [DS.arr, Value.oneCell', SL.v]
theorem size27 (d : DS) : (Try.prog.info? 27).map (·.size) = some d.arr.size := by
  rw [arr_size]; kernel_rfl
theorem set3 (d : DS) (y : SL) : d.arr.setIfInBounds 3 (.slice y.a y.n y.c) = ({ d with bs := y } : DS).arr := rfl
theorem set27 (d : DS) (y : SL) : d.arr.setIfInBounds 27 (.slice y.a y.n y.c) = ({ d with lit := y } : DS).arr := rfl
theorem set20 (d : DS) (y : SL) : d.arr.setIfInBounds 20 (.slice y.a y.n y.c) = ({ d with hs := y } : DS).arr := rfl
theorem Holds.set3 {g : Nat} {d : DS} {w : World} (h : Holds g d w) (y : SL) : Holds g { d with bs := y } (w.setCell ⟨g, 3, none⟩ (.slice y.a y.n y.c)) := by
  unfold Holds; rw [← dirty.set3]; exact heap_setCell_same w g 3 _ 27 _ h
theorem Holds.set27 {g : Nat} {d : DS} {w : World} (h : Holds g d w) (y : SL) : Holds g { d with lit := y } (w.setCell ⟨g, 27, none⟩ (.slice y.a y.n y.c)) := by
  unfold Holds; rw [← dirty.set27]; exact heap_setCell_same w g 27 _ 27 _ h
theorem Holds.set20 {g : Nat} {d : DS} {w : World} (h : Holds g d w) (y : SL) : Holds g { d with hs := y } (w.setCell ⟨g, 20, none⟩ (.slice y.a y.n y.c)) := by
  unfold Holds; rw [← dirty.set20]; exact heap_setCell_same w g 20 _ 27 _ h
theorem Holds.other {g : Nat} {d : DS} {w : World} (h : Holds g d w) (a : Addr) (hne : g ≠ a.block) (v : Value) : Holds g d (w.setCell a v) := (heap_setCell_other w a g v hne).trans h
theorem Holds.free {g : Nat} {d : DS} {w : World} (h : Holds g d w) (j : Nat) : w.frozen? ⟨g, j, none⟩ = false := frozen_of_row w g j _ 27 h
theorem NR.below {w w' : World} {x : SL} {s : Nat → SL} {f : Nat → Nat → UInt8} (h : NR w x s f) {B : Nat} (hb : Below B w w') (hB : w.heap.size ≤ B) : NR w' x s f := by
  rcases h with h | ⟨a, ha, h | ⟨b, off, he, hc⟩⟩
  · exact .inl h
  · exact .inr ⟨a, ha, .inl h⟩
  · exact .inr ⟨a, ha, .inr ⟨b, off, he, fun i hi => ⟨cb hb (Nat.lt_of_lt_of_le (cell_lt (hc i hi).1) hB) (hc i hi).1, (hc i hi).2.below hb hB⟩⟩⟩
/-- the state in block g, the empty one in block g' -/
def Two (g g' : Nat) (d : DS) (w0 w : World) : Prop := Holds g d w ∧ Holds g' D0 w ∧ Below g w0 w
theorem Two.below {g g' : Nat} {d : DS} {w0 w w' : World} (h : Two g g' d w0 w) (hb : Below w.heap.size w w') : Two g g' d w0 w' :=
  ⟨h.1.below hb h.1.lt, h.2.1.below hb h.2.1.lt, h.2.2.trans (hb.mono (Nat.le_of_lt h.1.lt))⟩
theorem Two.s3 {g g' : Nat} {d : DS} {w0 w : World} (h : Two g g' d w0 w) (hne : g' ≠ g) (y : SL) : Two g g' { d with bs := y } w0 (w.setCell ⟨g, 3, none⟩ (.slice y.a y.n y.c)) :=
  ⟨h.1.set3 y, h.2.1.other _ hne _, h.2.2.setCell (p := ⟨g, 3, none⟩) (Nat.le_refl _) _⟩
theorem Two.s27 {g g' : Nat} {d : DS} {w0 w : World} (h : Two g g' d w0 w) (hne : g' ≠ g) (y : SL) : Two g g' { d with lit := y } w0 (w.setCell ⟨g, 27, none⟩ (.slice y.a y.n y.c)) :=
  ⟨h.1.set27 y, h.2.1.other _ hne _, h.2.2.setCell (p := ⟨g, 27, none⟩) (Nat.le_refl _) _⟩
theorem Two.s20 {g g' : Nat} {d : DS} {w0 w : World} (h : Two g g' d w0 w) (hne : g' ≠ g) (y : SL) : Two g g' { d with hs := y } w0 (w.setCell ⟨g, 20, none⟩ (.slice y.a y.n y.c)) :=
  ⟨h.1.set20 y, h.2.1.other _ hne _, h.2.2.setCell (p := ⟨g, 20, none⟩) (Nat.le_refl _) _⟩
def Cp (d : DS) (w : World) (e : Ending) (w' : World) : Prop := ∃ y3 y27 y20 : SL, e = .returned (.agg ({ d with bs := y3, lit := y27, hs := y20 } : DS).arr) ∧ Below w.heap.size w w'
set_option maxHeartbeats 4000000 in
theorem copy_any (d : DS) (s : Nat → SL) (f1 f2 : Nat → UInt8) (f3 : Nat → Nat → UInt8) (w : World) (hb1 : d.bs.n ≤ 1048576) (hb2 : d.lit.n ≤ 1048576) (hb3 : d.hs.n ≤ 1048576) (hs : ∀ i, i < d.hs.n → (s i).n ≤ 1048576)
    (h1 : BR w d.bs f1) (h2 : BR w d.lit f2) (h3 : NR w d.hs s f3) :
    Calls Try.prog 11 #[.agg d.arr] w (Cp d w) := by
  have H1 := Lib.hid h1
  have H2 := Lib.hid h2
  have H3 := Lib.hid h3
  have HS := Lib.hid hs
  clear h1 h2 h3 hs
  go_enter Try.func11, Try.ntmps11
  generalize hA : DS.arr d = A
  iterate 6 go_step
  generalize hW : World.alloc _ _ = W
  go_step
  generalize hW2 : World.alloc _ _ = W2
  have hz : w.heap.size < W.heap.size := by rw [← hW]; simp
  have k0 : Two w.heap.size W.heap.size d w W2 := by
    have e1 : Below w.heap.size w W := by rw [← hW]; exact (Below.refl _ _).alloc (Nat.le_refl _) _
    have e2 : Below W.heap.size W W2 := by rw [← hW2]; exact (Below.refl _ _).alloc (Nat.le_refl _) _
    refine ⟨Holds.below ?_ e2 hz, ?_, e1.trans (e2.mono (Nat.le_of_lt hz))⟩
    · rw [← hW, ← hA]; exact Holds.new d w
    · rw [← hW2]; exact Holds.new D0 W
  generalize hg' : W.heap.size = g' at *
  have hne : g' ≠ w.heap.size := by omega
  have c3 : W2.cell? ⟨w.heap.size, 3, none⟩ = some (.slice d.bs.a d.bs.n d.bs.c) := k0.1.cell 3
  have K0 := Lib.hid k0
  have HN := Lib.hid hne
  have HG := Lib.hid (show w.heap.size ≤ g' by omega)
  clear hW hW2 hA hz k0 hg' hne
  go_wp2_with fail
  refine (cloneB_any d.bs f1 _ hb1 (H1.out.below K0.out.2.2 (Nat.le_refl _))).mono ?_
  rintro e w3 ⟨y3, l3, rfl, hn3, hb⟩
  have k3 := K0.out.below hb
  have c3' : w3.cell? ⟨w.heap.size, 3, none⟩ = some (.slice d.bs.a d.bs.n d.bs.c) := k3.1.cell 3
  have z3' : w3.frozen? ⟨w.heap.size, 3, none⟩ = false := k3.1.free 3
  have c27 : w3.cell? ⟨w.heap.size, 27, none⟩ = some (.slice d.lit.a d.lit.n d.lit.c) := k3.1.cell 27
  have K3 := Lib.hid (k3.s3 HN.out y3)
  clear hb k3 hn3 c3 K0
  go_wp2_with fail
  refine (cloneB_any d.lit f2 _ hb2 (H2.out.below K3.out.2.2 (Nat.le_refl _))).mono ?_
  rintro e w4 ⟨y27, l27, rfl, hn4, hb⟩
  have k4 := K3.out.below hb
  have c4' : w4.cell? ⟨w.heap.size, 27, none⟩ = some (.slice d.lit.a d.lit.n d.lit.c) := k4.1.cell 27
  have z4' : w4.frozen? ⟨w.heap.size, 27, none⟩ = false := k4.1.free 27
  have c20 : w4.cell? ⟨w.heap.size, 20, none⟩ = some (.slice d.hs.a d.hs.n d.hs.c) := k4.1.cell 20
  have K4 := Lib.hid (k4.s27 HN.out y27)
  clear hb k4 hn4 c3' z3' c27 K3
  go_wp2_with fail
  refine (clone2_any d.hs s f3 _ hb3 HS.out (H3.out.below K4.out.2.2 (Nat.le_refl _))).mono ?_
  rintro e w5 ⟨ya, yn, yc, rfl, hb⟩
  have k5 := K4.out.below hb
  have c5' : w5.cell? ⟨w.heap.size, 20, none⟩ = some (.slice d.hs.a d.hs.n d.hs.c) := k5.1.cell 20
  have z5' : w5.frozen? ⟨w.heap.size, 20, none⟩ = false := k5.1.free 20
  have K5 := Lib.hid (k5.s20 HN.out ⟨ya, yn, yc⟩)
  clear hb k5 c4' z4' c20 K4
  have hrow := K5.out.1
  unfold Holds at hrow
  have hrow2 := K5.out.2.1
  unfold Holds at hrow2
  have HROW := Lib.hid hrow
  have HROW2 := Lib.hid hrow2
  have HB := Lib.hid K5.out.2.2
  clear hrow hrow2 K5
  generalize hd' : ({ d with bs := y3, lit := y27, hs := ⟨ya, yn, yc⟩ } : DS) = d' at *
  have HD := Lib.hid hd'
  clear hd'
  go_wp2_with (first | (refine wpList_load_row rfl 27 _ rfl w.heap.size (by simp [go_sem]) 27 d'.arr (0, 0) _ HROW.out Try.underlying27 rfl (size27 d') ?_) | (refine wpList_store_row rfl 27 _ _ rfl g' d'.arr (by simp [go_sem]) (by simp [go_sem]) 27 D0.arr HROW2.out (size27 d') rfl (arr_one d') ?_))
  refine bodyPost_ret (v := .agg d'.arr) (results_cell_row (show Try.f11.results = #[.cell 2 27] by kernel_rfl) _ _ g' 27 d'.arr (0, 0) _ (by simp [go_sem]) (setRow_heap _ _ _ _ 27 (0, 0) HROW2.out) Try.underlying27 rfl (size27 d')) rfl ⟨y3, y27, ⟨ya, yn, yc⟩, by rw [HD.out], below_setRow HB.out HG.out _⟩
end Go.Proofs.Ytbfnkblcagoemaa.dirty
