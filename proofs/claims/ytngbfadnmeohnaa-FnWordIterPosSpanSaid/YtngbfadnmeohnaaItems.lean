/-
  Contracts of zzItems, of the End of a word and of a word iteration. Conditions: as each contract states.
-/
import Derived.Test.YtngbfadnmeohnaaIter
namespace Go.Proofs.Ytngbfadnmeohnaa.iter
open Go.ChangeShapes Go.WideShapes Go.ChangeAt Go.RowKit
open Go.Proofs.Ytngbfadnmeohnaa.own hiding ret_int ret_bool wf_u64 wf_u32 wf_i64
open Go.Proofs.Ytngbfadnmeohnaa.posn
set_option linter.unusedVariables false

theorem ptr_info : (Try.prog.info? 75).map (fun i => (i.zero, i.size, i.bytes)) = some (some (.pointer none), 1, 8) := by kernel_rfl
def ISP (n : Nat) (f g : Nat → Int) (w : World) (e : Ending) (w' : World) : Prop :=
  ∃ la, e = .returned (.slice (some ⟨la, 0, none⟩) n n) ∧ (0 < n → ∃ p, w'.cell? ⟨la, n - 1, none⟩ = some (.pointer (some ⟨p, 0, none⟩)) ∧ Item 0 w' p (f (n - 1)) (g (n - 1))) ∧ Below w.heap.size w w'
def InvI (n : Nat) (f g : Nat → Int) (w : World) (j : Nat) (wr : World) : Prop :=
  ∃ vs : List Value, vs.length = n ∧ Filling w.heap.size w.heap.size 75 vs (.pointer none) w j wr ∧ (0 < j → ∃ p, vs[j - 1]? = some (.pointer (some ⟨p, 0, none⟩)) ∧ Item (w.heap.size + 1) wr p (f (j - 1)) (g (j - 1)))
set_option maxHeartbeats 4000000 in
theorem items (a : Option Addr) (n c : Nat) (a7 : Option Addr) (c7 : Nat) (f g : Nat → Int) (w : World) (hn : n ≤ 65536) (h : IR .u32 w a n f) (h7 : IR .u32 w a7 n g) :
    Calls Try.prog 34 #[.slice a n c, .slice a7 n c7] w (ISP n f g w) := by
  obtain ⟨i0, hi, hz0, hz1, hz2⟩ := info_parts ptr_info
  have HS := Lib.hid h
  have HT := Lib.hid h7
  clear h h7
  go_enter Try.func34, Try.ntmps34
  go_wp2_with (at_make; refine wpList_make_full _ rfl _ _ 66 rfl w.heap.size 75 i0 (.pointer none) 1 Try.underlying66 hi hz0 hz1 .i64 .i64 _ _ n rfl rfl ?c0 ?c1 ?c2 ?c3 ?c4 ?_)
  case c0 => rfl
  case c1 => rfl
  case c2 => rw [hz2]; omega
  case c3 => unfold maxLen; omega
  case c4 => exact Nat.le_refl _
  intro w1 hown hgrow
  have HR := Lib.hid (show InvI n f g w 0 w1 from ⟨List.replicate n (.pointer none), by simp, Filling.start (vs := List.replicate n (.pointer none)) (z := .pointer none) (by simp) (Below.refl w.heap.size w) (Nat.le_refl _) hown hgrow, fun h => by omega⟩)
  clear hown hgrow
  go_wp2
  go_loopw [6] (fun i wr => ∃ j : Nat, j ≤ n ∧ i = .int .i64 j ∧ InvI n f g w j wr) (fun i _ => n - (intOf i).toNat)
  case atStart => exact ⟨0, by omega, rfl, HR.out⟩
  case round =>
    obtain ⟨j, hj, rfl, hr⟩ := hrel
    have H := Lib.hid hr
    clear hr HR
    by_cases hlt : j < n
    · rcases HS.out with h0 | ⟨b, off, rfl, hc⟩
      · omega
      rcases HT.out with h0 | ⟨b7, off7, rfl, hc7⟩
      · omega
      obtain ⟨vs, hvl, hF, hL⟩ := H.out
      have c1 := cb hF.2.1 (cell_lt (hc j hlt)) (hc j hlt)
      have c2 := cb hF.2.1 (cell_lt (hc7 j hlt)) (hc7 j hlt)
      have lw : w.heap.size < wr.heap.size := (World.ownsRow.lt hF.1 _ rfl).2
      have lw2 : w.heap.size + 1 ≤ wr.heap.size := lw
      obtain ⟨x, hx⟩ : ∃ x, x = f j := ⟨_, rfl⟩
      obtain ⟨y, hy⟩ : ∃ y, y = g j := ⟨_, rfl⟩
      rw [← hx] at c1
      rw [← hy] at c2
      have HF := Lib.hid hF
      have HX := Lib.hid hx
      have HY := Lib.hid hy
      have HVL := Lib.hid hvl
      clear hx hy hc hc7 hF hL hvl
      go_wp2
      go_region_held3 (fun w' => w'.cell? ⟨b, off + j, none⟩ = some (.int .u32 x) ∧ w'.cell? ⟨b7, off7 + j, none⟩ = some (.int .u32 y) ∧ Below wr.heap.size wr w')
        (refine ⟨?_, ?_, ?_⟩ <;> (repeat (first | (with_reducible assumption) | (with_reducible exact Below.refl _ _) | (with_reducible apply ck) | (with_reducible apply cd) | (with_reducible refine Below.alloc ?_ ?_ _) | (with_reducible apply Below.drew) | go_size)))
        (first | (go_at_call 12; refine (mk12 _ _ _).mono ?_; rintro e w' ⟨rfl, rfl⟩))
      all_goals
        rename_i hHeld
        have HBW := Lib.hid hHeld.2.2
        clear hHeld
        go_wp2_with fail
        with_reducible refine (litWord x y _ _).mono ?_
        rintro e w2 ⟨p, rfl, hI, hb2⟩
        have hbT : Below wr.heap.size wr w2 := HBW.out.trans (hb2.mono HBW.out.size)
        have HI2 := Lib.hid (hI.mono (Nat.le_trans lw2 HBW.out.size))
        have F3 := Lib.hid ((HF.out.below hbT).swap (vs' := vs.set j (.pointer (some ⟨p, 0, none⟩))) (by simp) (by rw [List.take_set_of_le (Nat.le_refl _)]))
        have hj3 : j < (vs.set j (.pointer (some ⟨p, 0, none⟩))).length := by rw [List.length_set, HVL.out]; exact hlt
        have c0 := F3.out.cell hj3
        have f0 := F3.out.free
        have hg3 : (vs.set j (.pointer (some ⟨p, 0, none⟩)))[j]? = some (.pointer (some ⟨p, 0, none⟩)) := by rw [List.getElem?_set_self (by rw [HVL.out]; exact hlt)]
        have R := Lib.hid (show InvI n f g w (j + 1) (w2.setCell ⟨w.heap.size, j, none⟩ (.pointer (some ⟨p, 0, none⟩))) from ⟨_, by rw [List.length_set, HVL.out], F3.out.store (Nat.le_refl _) _ hg3, fun _ => ⟨p, hg3, by
          have := HI2.out.set ⟨w.heap.size, j, none⟩ (.pointer (some ⟨p, 0, none⟩)) (by simp)
          rw [HX.out, HY.out] at this; exact this⟩⟩)
        clear hI hb2 hbT hj3 hg3 F3 HI2
        go_wp2
        go_roundw
        case rel => exact ⟨j + 1, by omega, by go_num, R.out⟩
        case measure => simp [intOf]; omega
    · obtain rfl : j = n := by omega
      obtain ⟨vs, hvl, hF, hL⟩ := H.out
      have HD := Lib.hid (show (0 < j → ∃ p, wr.cell? ⟨w.heap.size, j - 1, none⟩ = some (.pointer (some ⟨p, 0, none⟩)) ∧ Item 0 wr p (f (j - 1)) (g (j - 1))) by
        intro h0
        obtain ⟨p, hp, hI⟩ := hL h0
        refine ⟨p, ?_, hI.mono (Nat.zero_le _)⟩
        have hF' : Filling w.heap.size w.heap.size 75 vs (.pointer none) w vs.length wr := by rw [hvl]; exact hF
        rw [hF'.done.cellAt (j - 1) (by omega)]; exact hp)
      have HB := Lib.hid hF.2.1
      clear hvl hF hL
      go_wp2
      go_ret
      exact ⟨_, rfl, HD.out, HB.out⟩
end Go.Proofs.Ytngbfadnmeohnaa.iter
