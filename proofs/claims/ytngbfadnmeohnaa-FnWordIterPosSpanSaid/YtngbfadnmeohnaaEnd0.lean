/-
  The contract of WordIter.End without items. Conditions: as it states.
-/
import Derived.Test.YtngbfadnmeohnaaEnds
namespace Go.Proofs.Ytngbfadnmeohnaa.iter
open Go.ChangeShapes Go.WideShapes Go.ChangeAt Go.RowKit
open Go.Proofs.Ytngbfadnmeohnaa.own hiding ret_int ret_bool wf_u64 wf_u32 wf_i64
open Go.Proofs.Ytngbfadnmeohnaa.posn
set_option linter.unusedVariables false
set_option maxHeartbeats 4000000 in
theorem iterEnd_none (b nb : Nat) (la : Option Addr) (lc : Nat) (x y p q u v : Int) (w : World) (hx : 0 ≤ x) (hy0 : 0 ≤ y) (hy : y ≤ 4294967295) (h : IterAt w b nb x y (.slice la 0 lc)) (hL : LitAt w nb p q u v) : Calls Try.prog 36 #[.pointer (some ⟨b, 0, none⟩)] w (MaxP u w) := by
  obtain ⟨c0, c1, c2, c3⟩ := h
  have l0 := cell_lt c3
  go_enter Try.func36, Try.ntmps36
  go_wp2
  obtain ⟨W, hW⟩ : ∃ W : World, W = w.alloc (.cells #[.int .u32 0, .int .u32 0] 26) := ⟨_, rfl⟩
  rw [← hW]
  have d0 : W.cell? ⟨b, 0, none⟩ = some (.pointer (some ⟨nb, 0, none⟩)) := by rw [hW]; exact ck _ c0
  have d1 : W.cell? ⟨b, 1, none⟩ = some (.int .u32 x) := by rw [hW]; exact ck _ c1
  have d2 : W.cell? ⟨b, 2, none⟩ = some (.int .u32 y) := by rw [hW]; exact ck _ c2
  have z0 : W.cell? ⟨w.heap.size, 0, none⟩ = some (.int .u32 0) := by rw [hW]; simp [go_sem]
  have z1 : W.cell? ⟨w.heap.size, 1, none⟩ = some (.int .u32 0) := by rw [hW]; simp [go_sem]
  have f0 : W.frozen? ⟨w.heap.size, 0, none⟩ = false := by rw [hW]; simp [go_sem]
  have f1 : W.frozen? ⟨w.heap.size, 1, none⟩ = false := by rw [hW]; simp [go_sem]
  have hbW : Below w.heap.size w W := by rw [hW]; exact (Below.refl _ _).alloc (Nat.le_refl _) _
  have hsz : w.heap.size < W.heap.size := by rw [hW]; simp
  have HBW := Lib.hid hbW
  have HL := Lib.hid (hL.keep hbW)
  have n1 : b ≠ w.heap.size := Nat.ne_of_lt l0
  clear hW c0 c1 c2 c3 hL hbW
  go_region_held3 (fun w' => w'.cell? ⟨b, 0, none⟩ = some (.pointer (some ⟨nb, 0, none⟩)) ∧ w'.cell? ⟨b, 1, none⟩ = some (.int .u32 x) ∧ w'.cell? ⟨b, 2, none⟩ = some (.int .u32 y))
    (first | exact ⟨d0, d1, d2⟩ | exact ⟨wa0, wa1, wa2⟩ | exact ⟨wb0, wb1, wb2⟩ | exact ⟨wc0, wc1, wc2⟩ | exact ⟨cell_set (cell_set wc0 n1) n1, cell_set (cell_set wc1 n1) n1, cell_set (cell_set wc2 n1) n1⟩)
    (first | (go_at_call 48; first | (refine (litEnd nb p q u v _ (by first | exact Lwa.out | exact Lwa.out.keep ((Below.refl _ _).drew))).mono ?_; rintro e wb ⟨rfl, hb⟩; have hwb : Below W.heap.size W wb := (by first | exact hwa.trans (hb.mono hwa.size) | exact hwa.drew.trans (hb.mono hwa.size)); have wb0 := cb hwb (cell_lt d0) d0; have wb1 := cb hwb (cell_lt d1) d1; have wb2 := cb hwb (cell_lt d2) d2; have Lwb := Lib.hid (HL.out.keep hwb); clear hb) | (refine (litEnd nb p q u v _ (by first | exact HL.out | exact HL.out.keep ((Below.refl _ _).drew))).mono ?_; rintro e wa ⟨rfl, hb⟩; have hwa : Below W.heap.size W wa := (by first | exact ((Below.refl W.heap.size W).drew).trans hb | exact hb); have wa0 := cb hwa (cell_lt d0) d0; have wa1 := cb hwa (cell_lt d1) d1; have wa2 := cb hwa (cell_lt d2) d2; have Lwa := Lib.hid (HL.out.keep hwa); clear hb)) | (go_at_call 43; first | (refine (add_any x y _ hx hy0 hy).mono ?_; rintro e wb ⟨xx, yy, rfl, hb⟩; have hwb : Below W.heap.size W wb := (by first | exact hwa.trans (hb.mono hwa.size) | exact hwa.drew.trans (hb.mono hwa.size)); have wb0 := cb hwb (cell_lt d0) d0; have wb1 := cb hwb (cell_lt d1) d1; have wb2 := cb hwb (cell_lt d2) d2; have Lwb := Lib.hid (HL.out.keep hwb); clear hb) | (refine (add_any x y _ hx hy0 hy).mono ?_; rintro e wa ⟨xx, yy, rfl, hb⟩; have hwa : Below W.heap.size W wa := (by first | exact ((Below.refl W.heap.size W).drew).trans hb | exact hb); have wa0 := cb hwa (cell_lt d0) d0; have wa1 := cb hwa (cell_lt d1) d1; have wa2 := cb hwa (cell_lt d2) d2; have Lwa := Lib.hid (HL.out.keep hwa); clear hb)) | (go_at_call 47; refine (posMax u v xx yy _).mono ?_; rintro e wc ⟨mx, my, hmx, rfl, hb⟩; have hwc : Below W.heap.size W wc := (by first | exact hwb.trans (hb.mono hwb.size) | exact hwb.drew.trans (hb.mono hwb.size)); have wc0 := cb hwc (cell_lt d0) d0; have wc1 := cb hwc (cell_lt d1) d1; have wc2 := cb hwc (cell_lt d2) d2; have Lwc := Lib.hid (HL.out.keep hwc); clear hb; have y0 := cb hwc (cell_lt z0) z0; have y1 := cb hwc (cell_lt z1) z1; have g0 := (hwc.frozen (p := ⟨w.heap.size, 0, none⟩) hsz).trans f0; have g1 := (hwc.frozen (p := ⟨w.heap.size, 1, none⟩) hsz).trans f1))
  all_goals
    rename_i hHeld
    clear hHeld
    have HB1 := Lib.hid (HBW.out.trans (hwc.mono (Nat.le_of_lt hsz)))
    clear hwc hwb hwa
    go_wp2
    exact bodyPost_ret (v := .agg #[.int .u32 mx, .int .u32 my]) (by simp [results, Try.results36, go_sem, *]) rfl ⟨mx, my, hmx, rfl, by have := HB1.out; go_grown⟩
end Go.Proofs.Ytngbfadnmeohnaa.iter
