/-
  Contracts of the lexer's new, peekRest and next. Conditions: as each contract states; next asks that utf8's two tables hold what their initialisers lay.
-/
import Derived.Test.YtjldjndojmgabaaDoorShelf
import Derived.Test.YtjldjndojmgabaaDoorChecked
import Derived.WalkKit
import Derived.Handy
import Derived.Below
import Derived.Lib.Hide
import Derived.Lib.LaidU8
import Derived.Lib.Strings
import Derived.Laws.RangeAny
import Derived.Deep.QuietTactic
import Derived.BigQuiet
import Derived.Deep.RegionHeld3
namespace Go.Proofs.YtjldjndojmgabaaDoor.lex
open Go.RowKit
set_option linter.unusedVariables false

theorem new_any (s : ByteArray) (w : World) : Calls Tryd.prog 5 #[.string s] w fun e w' => e = .returned (.pointer (some ⟨w.heap.size, 0, none⟩)) ∧ w' = w.alloc (.cells #[.string s, .int .i64 0] 28) := by
  go_enter Tryd.func5, Tryd.ntmps5
  go_wp2
  go_ret
  exact ⟨rfl, rfl⟩
/-- the same memory, whatever was drawn -/
structure Same (W wr : World) : Prop where
  heap : wr.heap = W.heap
  os : wr.os = W.os
  tape : wr.tape = W.tape
  output : wr.output = W.output
theorem Same.refl (W : World) : Same W W := ⟨rfl, rfl, rfl, rfl⟩
theorem Same.cell {W wr : World} (h : Same W wr) {a : Addr} {v : Value} (hc : W.cell? a = some v) : wr.cell? a = some v := by
  rw [← hc]; exact World.cell?_of_block (by rw [h.heap])
theorem Same.frozen {W wr : World} (h : Same W wr) {a : Addr} {b : Bool} (hc : W.frozen? a = b) : wr.frozen? a = b := by
  rw [← hc]; exact World.frozen?_of_block (by rw [h.heap])
theorem Same.below {W wr : World} (h : Same W wr) (B : Nat) : Below B W wr := ⟨h.os, h.tape, h.output, by rw [h.heap]; exact Nat.le_refl _, fun _ _ => by rw [h.heap]⟩
theorem Same.tabs {W wr : World} (h : Same W wr) {g3 g4 : Nat} (hT : Lib.Utf8Tabs g3 g4 W) : Lib.Utf8Tabs g3 g4 wr :=
  ⟨fun c hc => h.cell (hT.1 c hc), fun i hi => ⟨h.cell (hT.2 i hi).1, h.cell (hT.2 i hi).2⟩⟩
set_option maxHeartbeats 1000000 in
theorem peek_any (s R : ByteArray) (p L : Nat) (w : World) (hs : s.size ≤ 1048576) (hp : p ≤ s.size) (c0 : w.cell? ⟨L, 0, none⟩ = some (.string s)) (c1 : w.cell? ⟨L, 1, none⟩ = some (.int .i64 p)) (hR : s.extract p s.size = R) :
    Calls Tryd.prog 6 #[.pointer (some ⟨L, 0, none⟩)] w fun e w' => e = .returned (.string R) ∧ Same w w' := by
  go_enter Tryd.func6, Tryd.ntmps6
  go_wp2
  go_quiet (fail)
  go_wp2
  go_ret
  exact ⟨rfl, rfl, rfl, rfl, rfl⟩
set_option maxHeartbeats 1000000 in
theorem next_end (s : ByteArray) (L : Nat) (w : World) (hs : s.size ≤ 1048576) (c0 : w.cell? ⟨L, 0, none⟩ = some (.string s)) (c1 : w.cell? ⟨L, 1, none⟩ = some (.int .i64 s.size)) :
    Calls Tryd.prog 7 #[.pointer (some ⟨L, 0, none⟩)] w fun e w' => e = .returned (.int .i32 0) ∧ Same w w' := by
  go_enter Tryd.func7, Tryd.ntmps7
  go_wp2
  go_quiet (fail)
  go_wp2
  go_ret
  exact ⟨rfl, rfl, rfl, rfl, rfl⟩
set_option maxHeartbeats 2000000 in
theorem next_any (s R : ByteArray) (p L : Nat) (w : World) (hs : s.size ≤ 1048576) (hp : p < s.size) (c0 : w.cell? ⟨L, 0, none⟩ = some (.string s)) (c1 : w.cell? ⟨L, 1, none⟩ = some (.int .i64 p)) (hf : w.frozen? ⟨L, 1, none⟩ = false) (hR : s.extract p s.size = R)
    (hT : Lib.Utf8Tabs 0 1 w) (r d : Nat) (hd : Lib.decodeGo R = (r, d)) (hd4 : d ≤ 4) :
    Calls Tryd.prog 7 #[.pointer (some ⟨L, 0, none⟩)] w fun e w' => e = .returned (.int .i32 r) ∧ ∃ w1, Below w.heap.size w w1 ∧ w' = w1.setCell ⟨L, 1, none⟩ (.int .i64 ((p : Int) + d)) := by
  have hL : L < w.heap.size := World.block_lt_of_cell? w _ c0
  have HT := Lib.hid hT
  have HD := Lib.hid hd
  clear hT hd
  have i1 : ¬ ((s.size : Int) ≤ (p : Int)) := by omega
  have i2 : decide (s.size ≤ p) = false := by simp; omega
  have i3 : p ≤ s.size := by omega
  have i4 : (p : Int) ≤ (s.size : Int) := by omega
  go_enter Tryd.func7, Tryd.ntmps7
  go_wp2
  go_quiet (fail)
  obtain ⟨W2, hW2⟩ : ∃ W2 : World, W2 = w.drewN nq := ⟨_, rfl⟩
  rw [← hW2]
  have S2 : Same w W2 := by rw [hW2]; exact ⟨rfl, rfl, rfl, rfl⟩
  have c20 := S2.cell c0
  have c21 := S2.cell c1
  have cf2 := S2.frozen hf
  have HS2 := Lib.hid S2
  clear hW2 c0 c1 hf S2
  go_wp2_with fail
  have hT2 := HS2.out.tabs HT.out
  have hL2 : L < W2.heap.size := by rw [HS2.out.heap]; exact hL
  have HL2 := Lib.hid hL2
  have HT2 := Lib.hid (show Lib.Utf8Tabs 0 1 W2.drew from Same.tabs (W := W2) ⟨rfl, rfl, rfl, rfl⟩ hT2)
  clear hT2 hL2
  go_region_held3 (fun w' => w'.cell? ⟨L, 0, none⟩ = some (.string s) ∧ w'.cell? ⟨L, 1, none⟩ = some (.int .i64 p) ∧ w'.frozen? ⟨L, 1, none⟩ = false ∧ Below W2.heap.size W2 w')
    (first | exact ⟨c20, c21, cf2, Below.refl _ _⟩ | exact ⟨c20, c21, cf2, (Below.refl _ _).drew⟩ | exact ⟨k0, k1, kf, hb1⟩ | exact ⟨k0, k1, kf, hb1.drew⟩)
    ((go_at_call 10; refine (Tryd.utf8_DecodeRuneInString R W2.drew HT2.out).mono ?_; rintro e w1 ⟨rfl, hb⟩; rw [HD.out]; have hb1 : Below W2.heap.size W2 w1 := ⟨hb.os, hb.tape, hb.output, hb.size, hb.block⟩; have k0 := (hb1.cell (p := ⟨L, 0, none⟩) HL2.out).trans c20; have k1 := (hb1.cell (p := ⟨L, 1, none⟩) HL2.out).trans c21; have kf := (hb1.frozen (p := ⟨L, 1, none⟩) HL2.out).trans cf2; clear hb))
  have HB := Lib.hid (show Below w.heap.size w w1 from (HS2.out.below _).trans (hb1.mono (by rw [HS2.out.heap]; exact Nat.le_refl _)))
  clear hb1 c20 c21 cf2
  go_wp2
  go_ret
  exact ⟨rfl, w1, HB.out, rfl⟩
/-! ### plain: what is decoded -/
theorem dec_facts (R : ByteArray) (h : 0 < R.size) : ∃ r d : Nat, Lib.decodeGo R = (r, d) ∧ 1 ≤ d ∧ d ≤ 4 ∧ d ≤ R.size ∧ ((R[0]'h).toNat < 128 → d = 1 ∧ r = (R[0]'h).toNat) ∧ (128 ≤ (R[0]'h).toNat → d = 1 → r = 65533) := by
  refine ⟨(Lib.decodeGo R).1, (Lib.decodeGo R).2, rfl, ?_⟩
  have e : Lib.decodeGo R = Lib.decodeN R.size (R.get! 0).toNat (R.get! 1).toNat (R.get! 2).toNat (R.get! 3).toNat := by
    have h0 : R.size ≠ 0 := by omega
    simp only [Lib.decodeGo, h0, if_false]
    rw [Lib.decode_at]; rfl
  have h0 : (R.get! 0).toNat = (R[0]'h).toNat := by rw [Utf8W.get!_of_lt R 0 h]
  rw [e, h0]
  generalize (R[0]'h).toNat = b0
  generalize (R.get! 1).toNat = b1
  generalize (R.get! 2).toNat = b2
  generalize (R.get! 3).toNat = b3
  unfold Lib.decodeN
  repeat' split
  all_goals (refine ⟨by simp, by simp, by simp; omega, fun _ => ?_, fun _ _ => ?_⟩ <;> first | omega | (simp at *; omega) | simp_all)
theorem ext_size (s : ByteArray) (p : Nat) (hp : p ≤ s.size) : (s.extract p s.size).size = s.size - p := by
  rw [ByteArray.size_extract]; omega
theorem ext_ext (s : ByteArray) (p d : Nat) (hp : p + d ≤ s.size) : (s.extract p s.size).extract d (s.extract p s.size).size = s.extract (p + d) s.size := by
  rw [ByteArray.extract_extract, ext_size s p (by omega)]
  congr 1
  omega
theorem ne_list {a : ByteArray} (h : 0 < a.size) : a.toList ≠ [] ∧ a.toList.isEmpty = false := by
  have e : a.toList.length = a.size := by rw [Lib.toList_data]; exact (Lib.size_eq a).symm
  constructor
  · intro h0; rw [h0] at e; simp at e; omega
  · cases h0 : a.toList with
    | nil => rw [h0] at e; simp at e; omega
    | cons _ _ => rfl
theorem ext_nil (s : ByteArray) : s.extract s.size s.size = ⟨#[]⟩ := by
  have h : (s.extract s.size s.size).size = 0 := by rw [ByteArray.size_extract]; omega
  cases hx : s.extract s.size s.size with
  | mk a => rw [hx] at h; congr 1; exact Array.eq_empty_of_size_eq_zero h
theorem ext_zero (s : ByteArray) : s.extract 0 s.size = s := ByteArray.extract_zero_size
/-- the lexer stands at p -/
structure At (s : ByteArray) (L p : Nat) (w wr : World) : Prop where
  c0 : wr.cell? ⟨L, 0, none⟩ = some (.string s)
  c1 : wr.cell? ⟨L, 1, none⟩ = some (.int .i64 p)
  cf : wr.frozen? ⟨L, 1, none⟩ = false
  tabs : Lib.Utf8Tabs 0 1 wr
  bel : Below w.heap.size w wr
theorem At.same {s : ByteArray} {L p : Nat} {w wr wr' : World} (h : At s L p w wr) (hs : Same wr wr') : At s L p w wr' :=
  ⟨hs.cell h.c0, hs.cell h.c1, hs.frozen h.cf, hs.tabs h.tabs, h.bel.trans (hs.below _)⟩
theorem At.next {s : ByteArray} {L p : Nat} {w wr w1 : World} (h : At s L p w wr) (hw : w.heap.size ≤ L) (hg : 1 < w.heap.size) (hT : Lib.Utf8Tabs 0 1 w) (hb : Below wr.heap.size wr w1) (q : Nat) : At s L q w (w1.setCell ⟨L, 1, none⟩ (.int .i64 q)) := by
  have hL : L < wr.heap.size := World.block_lt_of_cell? wr _ h.c0
  have b1 : Below w.heap.size w w1 := h.bel.trans (hb.mono h.bel.size)
  have k0 := (hb.cell (p := ⟨L, 0, none⟩) hL).trans h.c0
  have k1 := (hb.cell (p := ⟨L, 1, none⟩) hL).trans h.c1
  have b2 : Below w.heap.size w (w1.setCell ⟨L, 1, none⟩ (.int .i64 q)) := b1.setCell (p := ⟨L, 1, none⟩) hw _
  refine ⟨?_, World.cell?_setCell_same' _ _ _ (by rw [k1]; rfl), ?_, ?_, b2⟩
  · rw [World.cell?_setCell_other]
    · exact k0
    · simp
  · rw [World.frozen?_setCell]; exact (hb.frozen (p := ⟨L, 1, none⟩) hL).trans h.cf
  · exact ⟨fun c hc => (b2.cell (p := ⟨0, c, none⟩) (by show 0 < _; omega)).trans (hT.1 c hc), fun i hi => ⟨(b2.cell (p := ⟨1, 2 * i, none⟩) hg).trans (hT.2 i hi).1, (b2.cell (p := ⟨1, 2 * i + 1, none⟩) hg).trans (hT.2 i hi).2⟩⟩
end Go.Proofs.YtjldjndojmgabaaDoor.lex
