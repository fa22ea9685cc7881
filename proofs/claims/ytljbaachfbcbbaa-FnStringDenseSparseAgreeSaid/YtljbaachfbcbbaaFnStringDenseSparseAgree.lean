/-
  For every list of strings, FnStringDenseSparseAgree returns true. No conditions.
  The frame round the walk was written by a printer (mkframe.py), after the kit's own shells.
-/
import Derived.Test.YtljbaachfbcbbaaRows
import Derived.WalkKit
import Derived.ProofKit
import Derived.OpenShut
import Derived.SliceStrings
import Derived.Test.YtljbaachfbcbbaaStr
import Derived.ShutString
import Derived.ChangeOld
import Derived.Below
namespace Go.Proofs.Ytljbaachfbcbbaa.fnStringDenseSparseAgree
open Go.ChangeShapes Go.WideShapes Go.ChangeAt Go.RowKit
open Go.ChangeMaps (open_string shut_string)
set_option linter.unusedVariables false
open Go.Proofs.Ytljbaachfbcbbaa.own
open Go.Proofs.Ytljbaachfbcbbaa.vars

theorem own : ownKnob Try.prog.godebug = none := by kernel_rfl
theorem laidOut : laidOutB Try.prog = true := by kernel_rfl

-- Strs IsRow
theorem fill_keep {g B : Nat} {e : TypeId} {vs : List Value} {z : Value} {w : World} {k : Nat} {wr wr' : World} {row : Option Nat} (h : Filling g B e vs z w k wr) (hg : wr.grownBy wr' row) (hne : some g ≠ row) (hb : Below B w wr') : Filling g B e vs z w k wr' :=
  ⟨h.1.kept hg (.inr (by simpa [Value.ownBlock] using hne)), hb, Nat.le_trans h.2.2 hg.size⟩
theorem info3 : (Try.prog.info? 3).map (fun i => (i.zero, i.size, i.bytes)) = some (some (.int .i64 0), 1, 8) := by kernel_rfl
theorem S_dense (a0 : Bool) (g n c : Nat) (s : ByteArray) (w : World) (hn : 0 < n) (hm : n ≤ 131072) (hc : w.cell? ⟨g, 0, none⟩ = some (.string s)) :
    Calls Try.prog 20 #[vr a0 false false false 3 ⟨#[]⟩ (.slice (some ⟨g, 0, none⟩) n c) (.slice none 0 0)] w fun e w' => e = .returned (.string s) ∧ Below w.heap.size w w' :=
  string_of _ _ _ s true w (by simp) fun w' hb _ => iv_dense a0 g 0 n c s w' hn hm (cb hb (cell_lt hc) hc)
theorem S_dense0 (a0 : Bool) (al : Option Addr) (c : Nat) (w : World) :
    Calls Try.prog 20 #[vr a0 false false false 3 ⟨#[]⟩ (.slice al 0 c) (.slice none 0 0)] w fun e w' => e = .returned (.string ⟨#[]⟩) ∧ Below w.heap.size w w' :=
  string_of _ _ _ ⟨#[]⟩ false w (fun _ => rfl) fun w' _ _ => iv_dense0 a0 al c w'
theorem S_none (l : Value) (g : Nat) (w : World) :
    Calls Try.prog 20 #[vr true false false false 3 ⟨#[]⟩ l (.slice (some ⟨g, 0, none⟩) 0 0)] w fun e w' => e = .returned (.string ⟨#[]⟩) ∧ Below w.heap.size w w' :=
  string_of _ _ _ ⟨#[]⟩ false w (fun _ => rfl) fun w' _ _ => iv_miss true l g 0 0 0 w' fun w2 _ _ => bin_zero _ _ w2
theorem S_sparse (g n c g2 : Nat) (s : ByteArray) (w : World) (hn : 0 < n) (hm : n ≤ 131072) (hc : w.cell? ⟨g, 0, none⟩ = some (.string s)) (hi : ∀ i, i < n → w.cell? ⟨g2, i, none⟩ = some (.int .i64 (i : Int))) :
    Calls Try.prog 20 #[vr true false false false 3 ⟨#[]⟩ (.slice (some ⟨g, 0, none⟩) n c) (.slice (some ⟨g2, 0, none⟩) n n)] w fun e w' => e = .returned (.string s) ∧ Below w.heap.size w w' :=
  string_of _ _ _ s true w (by simp) fun w' hb hs => iv_hit true g 0 c s g2 0 n n w' hn hm (cb hb (cell_lt hc) hc) fun w2 hb2 hs2 =>
    bin_row g2 0 n n (fun i => (i : Int)) w2 hn hm (fun i h => ⟨by
      have h1 := hi i h
      rw [Nat.zero_add]
      exact cb hb2 (Nat.lt_of_lt_of_le (cell_lt h1) hs) (cb hb (cell_lt h1) h1), by omega, by omega⟩) true rfl
theorem S_gap (l : Value) (n g2 : Nat) (w : World) (hn : 0 < n) (hm : n ≤ 131072) (hi : ∀ i, i < n → w.cell? ⟨g2, i, none⟩ = some (.int .i64 ((i : Int) + 1))) :
    Calls Try.prog 20 #[vr true false false false 3 ⟨#[]⟩ l (.slice (some ⟨g2, 0, none⟩) n n)] w fun e w' => e = .returned (.string ⟨#[]⟩) ∧ Below w.heap.size w w' :=
  string_of _ _ _ ⟨#[]⟩ false w (fun _ => rfl) fun w' hb hs => iv_miss true l g2 0 n n w' fun w2 hb2 hs2 =>
    bin_row g2 0 n n (fun i => (i : Int) + 1) w2 hn hm (fun i h => ⟨by
      have h1 := hi i h
      rw [Nat.zero_add]
      exact cb hb2 (Nat.lt_of_lt_of_le (cell_lt h1) hs) (cb hb (cell_lt h1) h1), by omega, by omega⟩) false rfl
/-- both rows are filled up to j -/
def Two (g1 g2 n : Nat) (w1 : World) (j : Nat) (wr : World) : Prop :=
  Filling g1 w1.heap.size 3 (intsV .i64 (fun i => (i : Int)) n) (.int .i64 0) w1 j wr ∧ Filling g2 w1.heap.size 3 (intsV .i64 (fun i => (i : Int) + 1) n) (.int .i64 0) w1 j wr
theorem Two.step {g1 g2 n : Nat} {w1 : World} {j : Nat} {wr : World} (h : Two g1 g2 n w1 j wr) (h1 : w1.heap.size ≤ g1) (h2 : w1.heap.size ≤ g2) (hne : g1 ≠ g2) (hj : j < n) :
    wr.cell? ⟨g1, j, none⟩ = some (.int .i64 0) ∧ wr.frozen? ⟨g1, j, none⟩ = false ∧ (wr.setCell ⟨g1, j, none⟩ (.int .i64 (j : Int))).cell? ⟨g2, j, none⟩ = some (.int .i64 0) ∧ (wr.setCell ⟨g1, j, none⟩ (.int .i64 (j : Int))).frozen? ⟨g2, j, none⟩ = false ∧
    Two g1 g2 n w1 (j + 1) ((wr.setCell ⟨g1, j, none⟩ (.int .i64 (j : Int))).setCell ⟨g2, j, none⟩ (.int .i64 ((j : Int) + 1))) := by
  obtain ⟨a, b⟩ := h
  have l1 := intsV_length .i64 (fun i => (i : Int)) n
  have l2 := intsV_length .i64 (fun i => (i : Int) + 1) n
  have a' := a.store h1 (.int .i64 (j : Int)) (intsV_get _ _ _ _ hj)
  have b1 := fill_keep b (a.1.stored j (.int .i64 (j : Int))).2 (by simpa using fun e => hne e.symm) a'.2.1
  have b' := b1.store h2 (.int .i64 ((j : Int) + 1)) (intsV_get _ _ _ _ hj)
  have a2 := fill_keep a' (b1.1.stored j (.int .i64 ((j : Int) + 1))).2 (by simpa using hne) b'.2.1
  exact ⟨a.cell (by omega), a.free, b1.cell (by omega), b1.free, a2, b'⟩
theorem Two.cells {g1 g2 n : Nat} {w1 : World} {wr : World} (h : Two g1 g2 n w1 n wr) :
    (∀ i, i < n → wr.cell? ⟨g1, i, none⟩ = some (.int .i64 (i : Int))) ∧ (∀ i, i < n → wr.cell? ⟨g2, i, none⟩ = some (.int .i64 ((i : Int) + 1))) := by
  obtain ⟨a, b⟩ := h
  have l1 := intsV_length .i64 (fun i => (i : Int)) n
  have l2 := intsV_length .i64 (fun i => (i : Int) + 1) n
  constructor
  · intro i hi
    have a' : Filling g1 w1.heap.size 3 (intsV .i64 (fun i => (i : Int)) n) (.int .i64 0) w1 (intsV .i64 (fun i => (i : Int)) n).length wr := by rw [l1]; exact a
    rw [a'.done.cellAt i (by omega)]; exact intsV_get _ _ _ _ hi
  · intro i hi
    have b' : Filling g2 w1.heap.size 3 (intsV .i64 (fun i => (i : Int) + 1) n) (.int .i64 0) w1 (intsV .i64 (fun i => (i : Int) + 1) n).length wr := by rw [l2]; exact b
    rw [b'.done.cellAt i (by omega)]; exact intsV_get _ _ _ _ hi
theorem grow_lt {w' : World} {B e size : Nat} {g n c : Nat} {xs : List Value} (h : w'.ownsRow B e size (.slice (some ⟨g, 0, none⟩) n c) n xs) : g < w'.heap.size := (World.ownsRow.lt h g rfl).2
set_option maxHeartbeats 4000000 in
theorem walk (a0 : Option Addr) (len0 cap0 : Nat) (z0 : List ByteArray) (w : World) (w0 : IsStrs w a0 len0 cap0 z0) :
    Calls Try.prog 5 #[.slice a0 len0 cap0] w fun e w' => e = .returned (.bool true) ∧ Below w.heap.size w w' := by
  obtain ⟨s0, m0, z0'⟩ := w0.sr
  have S0 := Lib.hid s0
  have Z0 := Lib.hid z0'
  clear s0 z0' w0
  obtain ⟨i0, hi, hz0, hz1, hz2⟩ := info_parts info3
  go_enter Try.func5, Try.ntmps5
  go_wp2_with fail
  refine (zz19 _ _ _ _ _ m0 S0.out).mono ?_
  rintro e w' ⟨b, _, rfl, rfl⟩
  cases b
  · go_wp2_with fail
    go_ret
    exact ⟨rfl, Below.refl _ _⟩
  go_wp2_with fail
  refine (tooBig _ _ _ _ _ _ _ _ _ (by unfold maxLen; decide) (by unfold maxLen; omega) m0 S0.out).mono ?_
  rintro e w' ⟨b, hlim, rfl, rfl⟩
  cases b
  rotate_left
  · go_wp2_with fail
    go_ret
    exact ⟨rfl, Below.refl _ _⟩
  obtain ⟨l0, _⟩ := hlim rfl
  clear hlim
  by_cases hbig : len0 ≤ 65536
  rotate_left
  · go_wp2_with fail
    go_ret
    exact ⟨rfl, Below.refl _ _⟩
  by_cases hn : 0 < len0
  · rcases S0.out with h0 | ⟨b, off, rfl, hc⟩
    · omega
    have HC := Lib.hid (fun i hi => (hc i hi).1)
    clear hc
    go_wp2_with fail
    refine (cloneS_row b off len0 cap0 (fun i => z0.getD i ByteArray.empty) w (by omega) HC.out).mono ?_
    rintro e w1 ⟨rfl, ho, hb1⟩
    obtain ⟨s0, hs0⟩ : ∃ s0, s0 = z0.getD 0 ByteArray.empty := ⟨_, rfl⟩
    have C1 := Lib.hid (show w1.cell? ⟨w.heap.size, 0, none⟩ = some (.string s0) by rw [hs0, ho.cellAt 0 (by omega)]; exact strsV_get _ _ _ hn)
    have HB1 := Lib.hid hb1
    have zg : w.heap.size < w1.heap.size := grow_lt ho
    clear ho hb1 hs0
    go_wp2_with (at_make; refine wpList_make_full _ rfl _ _ 23 rfl w1.heap.size 3 i0 (.int .i64 0) 1 Try.underlying23 hi hz0 hz1 .i64 .i64 _ _ len0 rfl rfl ?c0 ?c1 ?c2 ?c3 ?c4 ?_)
    case c0 => rfl
    case c1 => rfl
    case c2 => rw [hz2]; omega
    case c3 => unfold maxLen; omega
    case c4 => exact Nat.le_refl _
    intro w2 ho2 hg2
    have z2 : w1.heap.size < w2.heap.size := grow_lt ho2
    have F1 := Lib.hid (Filling.start (vs := intsV .i64 (fun i => (i : Int)) len0) (z := .int .i64 0) (intsV_length _ _ _) (Below.refl w1.heap.size w1) (Nat.le_refl _) ho2 hg2)
    clear ho2 hg2
    go_wp2_with (at_make; refine wpList_make_full _ rfl _ _ 23 rfl w2.heap.size 3 i0 (.int .i64 0) 1 Try.underlying23 hi hz0 hz1 .i64 .i64 _ _ len0 rfl rfl ?d0 ?d1 ?d2 ?d3 ?d4 ?_)
    case d0 => rfl
    case d1 => rfl
    case d2 => rw [hz2]; omega
    case d3 => unfold maxLen; omega
    case d4 => exact Nat.le_refl _
    intro w3 ho3 hg3
    have F2 := Filling.start (vs := intsV .i64 (fun i => (i : Int) + 1) len0) (z := .int .i64 0) (intsV_length _ _ _) F1.out.2.1 (by omega) ho3 hg3
    have HT := Lib.hid (show Two w1.heap.size w2.heap.size len0 w1 0 w3 from ⟨fill_keep F1.out hg3 (by simp) F2.2.1, F2⟩)
    clear ho3 hg3 F2 F1
    go_wp2_with fail
    go_loopw [6] (fun i wr => ∃ j : Nat, j ≤ len0 ∧ i = .int .i64 j ∧ Two w1.heap.size w2.heap.size len0 w1 j wr) (fun i _ => len0 - (intOf i).toNat)
    case atStart => exact ⟨0, by omega, rfl, HT.out⟩
    case round =>
      obtain ⟨j, hj, rfl, hr⟩ := hrel
      have H := Lib.hid hr
      clear hr HT
      by_cases hlt : j < len0
      · obtain ⟨c1, f1, c2, f2, hn2⟩ := H.out.step (Nat.le_refl _) (by omega) (by omega) hlt
        have R := Lib.hid hn2
        clear hn2
        go_wp2_with fail
        go_roundw
        case rel => exact ⟨j + 1, by omega, by go_num, R.out⟩
        case measure => simp [intOf]; omega
      · obtain rfl : j = len0 := by omega
        obtain ⟨k1, k2⟩ := H.out.cells
        have K1 := Lib.hid k1
        have K2 := Lib.hid k2
        have HB2 := Lib.hid (show Below w1.heap.size w1 wr from H.out.1.2.1)
        have C2 := Lib.hid (cb HB2.out (by exact zg) C1.out)
        have zr : w2.heap.size < wr.heap.size := grow_lt H.out.2.1
        clear k1 k2 H
        go_wp2_with fail
        refine (S_dense true _ _ _ s0 _ hn (by omega) (ck _ (ck _ (ck _ (ck _ C2.out))))).mono ?_
        rintro e w5 ⟨rfl, hb5⟩
        obtain ⟨hc5, hf5⟩ := bcell hb5
        have z5 : wr.heap.size + 4 ≤ w5.heap.size := by have := hb5.size; simp at this; omega
        have H5 := Lib.hid (show Below wr.heap.size wr w5 from ((((((Below.refl _ wr).alloc (Nat.le_refl _) _).alloc (by simp) _).alloc (by simp; omega) _).alloc (by simp; omega) _)).trans (hb5.mono (by simp; omega)))
        have C5 := Lib.hid (cb H5.out (cell_lt C2.out) C2.out)
        have K5 := Lib.hid (fun i hi => cb H5.out (cell_lt (K1.out i hi)) (K1.out i hi))
        clear hb5
        have y5a : wr.heap.size + 1 < w5.heap.size := by omega
        have y5b : wr.heap.size + 1 + 1 < w5.heap.size := by omega
        have y5c : wr.heap.size + 1 + 1 + 1 < w5.heap.size := by omega
        go_wp2_with fail
        refine (S_sparse _ _ _ _ s0 _ hn (by omega) C5.out K5.out).mono ?_
        rintro e w6 ⟨rfl, hb6⟩
        obtain ⟨hc6, hf6⟩ := bcell hb6
        have z6 : wr.heap.size + 4 ≤ w6.heap.size := by have := hb6.size; omega
        have H6 := Lib.hid (H5.out.trans (hb6.mono (by omega)))
        have C6 := Lib.hid (cb H6.out (cell_lt C2.out) C2.out)
        clear hb6
        have y6a : wr.heap.size + 1 < w6.heap.size := by omega
        have y6b : wr.heap.size + 1 + 1 < w6.heap.size := by omega
        have y6c : wr.heap.size + 1 + 1 + 1 < w6.heap.size := by omega
        go_wp2_with fail
        refine (S_dense false _ _ _ s0 _ hn (by omega) C6.out).mono ?_
        rintro e w7 ⟨rfl, hb7⟩
        obtain ⟨hc7, hf7⟩ := bcell hb7
        have z7 : wr.heap.size + 4 ≤ w7.heap.size := by have := hb7.size; omega
        have H7 := Lib.hid (H6.out.trans (hb7.mono (by omega)))
        have K7 := Lib.hid (fun i hi => cb H7.out (cell_lt (K2.out i hi)) (K2.out i hi))
        clear hb7
        have y7a : wr.heap.size + 1 < w7.heap.size := by omega
        have y7b : wr.heap.size + 1 + 1 < w7.heap.size := by omega
        have y7c : wr.heap.size + 1 + 1 + 1 < w7.heap.size := by omega
        go_wp2_with fail
        refine (S_gap _ _ _ _ hn (by omega) K7.out).mono ?_
        rintro e w8 ⟨rfl, hb8⟩
        have H8 := Lib.hid (H7.out.trans (hb8.mono (by omega)))
        have c8 := cb H8.out (cell_lt C2.out) C2.out
        clear hb8
        have i1 : ((j : Int) == 0) = false := by simp; omega
        go_wp2_with fail
        go_ret
        exact ⟨rfl, HB1.out.trans ((HB2.out.mono (by omega)).trans (H8.out.mono (by omega)))⟩
  · obtain rfl : len0 = 0 := by omega
    clear hn
    have hcl : Calls Try.prog 9 #[.slice a0 0 cap0] w (Cp 0 w) := cloneS_cp a0 0 cap0 (fun i => z0.getD i ByteArray.empty) w (by omega) Z0.out S0.out
    have HCL := Lib.hid hcl
    clear hcl
    go_wp2_with fail
    refine HCL.out.mono ?_
    rintro e w1 ⟨a', c', rfl, hb1⟩
    have HB1 := Lib.hid hb1
    have zb := hb1.size
    clear hb1
    go_wp2_with (at_make; refine wpList_make_full _ rfl _ _ 23 rfl w1.heap.size 3 i0 (.int .i64 0) 1 Try.underlying23 hi hz0 hz1 .i64 .i64 _ _ 0 rfl rfl ?f0 ?f1 ?f2 ?f3 ?f4 ?_)
    case f0 => rfl
    case f1 => rfl
    case f2 => rw [hz2]; omega
    case f3 => unfold maxLen; omega
    case f4 => exact Nat.le_refl _
    intro w2 ho2 hg2
    have z2 : w1.heap.size < w2.heap.size := grow_lt ho2
    have B2 := Lib.hid (show Below w.heap.size w w2 from HB1.out.grown hg2 zb (fun k h => by cases h))
    clear ho2 hg2
    go_wp2_with (at_make; refine wpList_make_full _ rfl _ _ 23 rfl w2.heap.size 3 i0 (.int .i64 0) 1 Try.underlying23 hi hz0 hz1 .i64 .i64 _ _ 0 rfl rfl ?g0 ?g1 ?g2 ?g3 ?g4 ?_)
    case g0 => rfl
    case g1 => rfl
    case g2 => rw [hz2]; omega
    case g3 => unfold maxLen; omega
    case g4 => exact Nat.le_refl _
    intro w3 ho3 hg3
    have z3 : w2.heap.size < w3.heap.size := grow_lt ho3
    have B3 := Lib.hid (show Below w.heap.size w w3 from B2.out.grown hg3 (by omega) (fun k h => by cases h))
    clear ho3 hg3
    go_wp2_with fail
    refine wp_loop_rounds 1 ?_
    rw [rounds_succ]
    go_wp2_with fail
    refine (S_dense0 true _ _ _).mono ?_
    rintro e w5 ⟨rfl, hb5⟩
    obtain ⟨hc5, hf5⟩ := bcell hb5
    have z5 : w3.heap.size + 4 ≤ w5.heap.size := by have := hb5.size; simp at this; omega
    have H5 := Lib.hid (show Below w.heap.size w w5 from (((((B3.out).alloc (by omega) _).alloc (by simp; omega) _).alloc (by simp; omega) _).alloc (by simp; omega) _).trans (hb5.mono (by simp; omega)))
    clear hb5
    have y5a : w3.heap.size + 1 < w5.heap.size := by omega
    have y5b : w3.heap.size + 1 + 1 < w5.heap.size := by omega
    have y5c : w3.heap.size + 1 + 1 + 1 < w5.heap.size := by omega
    go_wp2_with fail
    refine (S_none _ _ _).mono ?_
    rintro e w6 ⟨rfl, hb6⟩
    obtain ⟨hc6, hf6⟩ := bcell hb6
    have z6 : w3.heap.size + 4 ≤ w6.heap.size := by have := hb6.size; omega
    have H6 := Lib.hid (H5.out.trans (hb6.mono (by omega)))
    clear hb6
    have y6a : w3.heap.size + 1 < w6.heap.size := by omega
    have y6b : w3.heap.size + 1 + 1 < w6.heap.size := by omega
    have y6c : w3.heap.size + 1 + 1 + 1 < w6.heap.size := by omega
    go_wp2_with fail
    refine (S_dense0 false _ _ _).mono ?_
    rintro e w7 ⟨rfl, hb7⟩
    obtain ⟨hc7, hf7⟩ := bcell hb7
    have z7 : w3.heap.size + 4 ≤ w7.heap.size := by have := hb7.size; omega
    have H7 := Lib.hid (H6.out.trans (hb7.mono (by omega)))
    clear hb7
    have y7a : w3.heap.size + 1 < w7.heap.size := by omega
    have y7b : w3.heap.size + 1 + 1 < w7.heap.size := by omega
    have y7c : w3.heap.size + 1 + 1 + 1 < w7.heap.size := by omega
    go_wp2_with fail
    refine (S_none _ _ _).mono ?_
    rintro e w8 ⟨rfl, hb8⟩
    have H8 := Lib.hid (H7.out.trans (hb8.mono (by omega)))
    clear hb8
    go_wp2_with fail
    go_ret
    exact ⟨rfl, H8.out⟩

/-! ### The row's step (frame) -/
set_option maxRecDepth 100000 in
theorem lifted (os : Os) (started : os.Started) (H : Type) (enc : TypeId × Value → H) :
    ReturnsInHanded {} Try.checked os 5 .any (Rows.fnStringDenseSparseAgreeSpec.pre6 enc Try.prog Try.f5 Rows.fnStringDenseSparseAgreeRow.domain false) (Rows.fnStringDenseSparseAgreeSpec.post enc Try.prog Try.f5 false true false false) := by
  refine returnsInHanded_of_change (C := Try.checked) own started (by kernel_rfl) Try.func5
    (ChangeSpec.witness6 (enc := enc) (C := Try.checked) false ⟨#[], #[.slice none 0 0], []⟩ 8 (by kernel_rfl) (by kernel_rfl) (by kernel_rfl) (by kernel_rfl)) ?_
  intro W base args ds gs before hval0 hW hcnd _
  have hval : ∀ (j : Nat) t v, Try.f5.params[j]? = some t → args[j]? = some v → Value.okWide Try.prog W .any base t v := hval0
  have hW' := hW
  obtain ⟨p, q, hA0, hV, rfl, hfz, hnd⟩ := hW
  have hA : DataW.TrodAll enc Try.prog W 0 (fun _ => true) true Try.f5.params.toList args.toList ds p := hA0
  rw [Try.params5] at hA hval
  obtain ⟨v0, vs0, d0, ds0, p0, q0, hargs, rfl, rfl, h0, r0⟩ := trodAll_cons hA
  obtain ⟨rfl, rfl, rfl⟩ := trodAll_nil r0
  obtain rfl : args = #[v0] := by cases args; simp_all
  obtain ⟨rfl, rfl⟩ := trodVars_none hV
  obtain ⟨a0, len0, cap0, rfl⟩ := okWide_slice Try.underlying22 (hval 0 22 v0 rfl rfl)
  have k0 := h0
  have lt0 : ∀ x ∈ p0, x.block < W.heap.size := by obtain ⟨m, hm⟩ := k0; exact DataW.trod_lt m _ _ _ hm
  obtain ⟨z0, w0⟩ : ∃ zs, IsStrs W a0 len0 cap0 zs := by
    obtain ⟨fuel, hf⟩ := h0
    rcases open_strings Try.underlying22 Try.underlying9 (by kernel_rfl) hf with ⟨hcs, _⟩ | ⟨x, l, c, zs, hcs, _, hl, hm, hz, _, hcell, hwz⟩
    · simp [Value.cells] at hcs
      obtain ⟨rfl, rfl, rfl⟩ := hcs
      exact ⟨[], .inl ⟨rfl, rfl, rfl, rfl⟩⟩
    · simp [Value.cells] at hcs
      obtain ⟨rfl, rfl, rfl⟩ := hcs
      exact ⟨zs, .inr ⟨_, rfl, hl, hm, by simpa using hz, hcell, hwz⟩⟩
  clear hA0 hval0
  refine (walk a0 len0 cap0 z0 W w0).mono fun e W' ⟨he, bel⟩ => ?_
  subst he
  exact ⟨_, rfl, _, _, _, [], _, [], hW', trodAll_mk1 (shut_bool Try.underlying4 _), (trodAll_cons_mk (Below.trod laidOut (by kernel_rfl) (of_decide_eq_true (by kernel_rfl)) k0 bel lt0) trodAll_mk0), rfl, bel.frame _, fun h => by cases h⟩

theorem over : Rows.fnStringDenseSparseAgreeRow.holds Try.pinned (OpenSpec.ofChange Rows.fnStringDenseSparseAgreeSpec) :=
  OpenClaim.holds_of_wide 5 Try.f5 rfl rfl rfl rfl rfl rfl rfl ⟨rfl, rfl, rfl, rfl, rfl⟩ rfl rfl rfl rfl rfl (by kernel_rfl) Try.func5 (by kernel_rfl)
    (of_decide_eq_true (by kernel_rfl)) (by unfold Func.isWrapper; first | (rw [if_pos (by decide +kernel)]; kernel_rfl) | (rw [if_neg (by decide +kernel)]; exact ⟨rfl, rfl⟩))
    (fun os started H enc _ => lifted os started H enc)

/-- The statement. -/
theorem proved : Rows.FnStringDenseSparseAgreeSaid := over
#print axioms proved
end Go.Proofs.Ytljbaachfbcbbaa.fnStringDenseSparseAgree
