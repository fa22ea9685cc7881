/-
  Contracts of Word.End, wordLastEnd, WordIter.Pos, posMax and WordIter.End. Conditions: as each contract states.
-/
import Derived.Test.YtngbfadnmeohnaaItems
namespace Go.Proofs.Ytngbfadnmeohnaa.iter
open Go.ChangeShapes Go.WideShapes Go.ChangeAt Go.RowKit
open Go.Proofs.Ytngbfadnmeohnaa.own hiding ret_int ret_bool wf_u64 wf_u32 wf_i64
open Go.Proofs.Ytngbfadnmeohnaa.posn
set_option linter.unusedVariables false

theorem after_big (x y u v : Int) (w : World) (h1 : 4294967284 < x) :
    Calls Try.prog 15 #[.agg #[.int .u32 x, .int .u32 y], .agg #[.int .u32 u, .int .u32 v]] w fun e w' => e = .returned (.bool false) ∧
      ((w.alloc (.cells #[.int .u32 x, .int .u32 y] 26)).alloc (.cells #[.int .u32 u, .int .u32 v] 26)).alloc (.cells #[.int .u32 x, .int .u32 y] 26) = w' := by
  go_enter Try.func15, Try.ntmps15
  go_wp2_with fail
  refine (valid_big _ _ _ h1).mono ?_
  rintro e w' ⟨rfl, rfl⟩
  go_wp2_with fail
  go_ret
  exact ⟨rfl, rfl⟩
def AftP (x u : Int) (w : World) (e : Ending) (w' : World) : Prop := ∃ b : Bool, (b = true → u < x) ∧ e = .returned (.bool b) ∧ Below w.heap.size w w'
theorem after_any (x y u v : Int) (w : World) : Calls Try.prog 15 #[.agg #[.int .u32 x, .int .u32 y], .agg #[.int .u32 u, .int .u32 v]] w (AftP x u w) := by
  by_cases h1 : x ≤ 4294967284
  · by_cases h2 : y = 0
    · subst h2
      exact (after_zero x u v w).mono fun _ _ ⟨he, hw⟩ => ⟨false, (fun h => by cases h), he, by rw [← hw]; go_grown⟩
    · exact (after_valid x y u v w h1 (by simpa using h2)).mono fun _ _ ⟨he, hw⟩ => ⟨_, (fun h => by simpa using h), he, by rw [← hw]; go_grown⟩
  · exact (after_big x y u v w (by omega)).mono fun _ _ ⟨he, hw⟩ => ⟨false, (fun h => by cases h), he, by rw [← hw]; go_grown⟩
def AggE (w : World) (e : Ending) (w' : World) : Prop := ∃ x y, e = .returned (.agg #[.int .u32 x, .int .u32 y]) ∧ Below w.heap.size w w'
theorem valid_no (x y : Int) (w : World) (h : ¬ (x ≤ 4294967284 ∧ (y != 0) = true)) :
    Calls Try.prog 21 #[.agg #[.int .u32 x, .int .u32 y]] w fun e w' => e = .returned (.bool false) ∧ w.alloc (.cells #[.int .u32 x, .int .u32 y] 26) = w' := by
  by_cases h1 : x ≤ 4294967284
  · have h2 : y = 0 := by
      rcases Classical.em (y = 0) with e | e
      · exact e
      · exact absurd ⟨h1, by simpa using e⟩ h
    subst h2; exact valid_zero x w
  · exact valid_big x y w (by omega)
theorem add_any (x y : Int) (w : World) (h0 : 0 ≤ x) (hy0 : 0 ≤ y) (hy : y ≤ 4294967295) : Calls Try.prog 43 #[.agg #[.int .u32 x, .int .u32 y], .int .i64 2] w (AggE w) := by
  by_cases h : x ≤ 4294967284 ∧ (y != 0) = true
  · exact (add_valid x y 2 w h0 h.1 h.2 hy0 hy (by omega) (by omega)).mono fun _ _ ⟨he, hw⟩ => ⟨_, _, he, by rw [← hw]; go_grown⟩
  · have HN := Lib.hid h
    clear h
    go_enter Try.func43, Try.ntmps43
    go_wp2_with fail
    refine (valid_no _ _ _ HN.out).mono ?_
    rintro e w' ⟨rfl, rfl⟩
    go_wp2_with fail
    exact bodyPost_ret (v := .agg #[.int .u32 x, .int .u32 y]) (by simp [results, Try.results43, go_sem]) rfl ⟨x, y, rfl, by go_grown⟩
def MaxP (x : Int) (w : World) (e : Ending) (w' : World) : Prop := ∃ u v, x ≤ u ∧ e = .returned (.agg #[.int .u32 u, .int .u32 v]) ∧ Below w.heap.size w w'
set_option maxHeartbeats 1000000 in
theorem posMax (x y u v : Int) (w : World) : Calls Try.prog 47 #[.agg #[.int .u32 x, .int .u32 y], .agg #[.int .u32 u, .int .u32 v]] w (MaxP x w) := by
  go_enter Try.func47, Try.ntmps47
  go_wp2_with fail
  refine (after_any _ _ _ _ _).mono ?_
  rintro e w2 ⟨b, hb, rfl, hw⟩
  have c0 : w2.cell? ⟨w.heap.size, 0, none⟩ = some (.int .u32 x) := cb hw (by simp <;> omega) (by simp [go_sem])
  have c1 : w2.cell? ⟨w.heap.size, 1, none⟩ = some (.int .u32 y) := cb hw (by simp <;> omega) (by simp [go_sem])
  have c2 : w2.cell? ⟨w.heap.size + 1, 0, none⟩ = some (.int .u32 u) := cb hw (by simp <;> omega) (by simp [go_sem])
  have c3 : w2.cell? ⟨w.heap.size + 1, 1, none⟩ = some (.int .u32 v) := cb hw (by simp <;> omega) (by simp [go_sem])
  have c4 : w2.cell? ⟨w.heap.size + 1 + 1, 0, none⟩ = some (.int .u32 0) := cb hw (by simp <;> omega) (by simp [go_sem])
  have c5 : w2.cell? ⟨w.heap.size + 1 + 1, 1, none⟩ = some (.int .u32 0) := cb hw (by simp <;> omega) (by simp [go_sem])
  have f4 : w2.frozen? ⟨w.heap.size + 1 + 1, 0, none⟩ = false := (hw.frozen (by simp <;> omega)).trans (by simp [go_sem])
  have f5 : w2.frozen? ⟨w.heap.size + 1 + 1, 1, none⟩ = false := (hw.frozen (by simp <;> omega)).trans (by simp [go_sem])
  have hW : Below w.heap.size w w2 := (show Below w.heap.size w _ by go_grown).trans (hw.mono (by simp; omega))
  have HW := Lib.hid hW
  clear hw hW
  cases b
  · clear hb
    go_wp2
    exact bodyPost_ret (v := .agg #[.int .u32 x, .int .u32 y]) (by simp [results, Try.results47, go_sem, *]) rfl ⟨x, y, Int.le_refl _, rfl, by have := HW.out; go_grown⟩
  · have hlt := hb rfl
    clear hb
    go_wp2
    exact bodyPost_ret (v := .agg #[.int .u32 u, .int .u32 v]) (by simp [results, Try.results47, go_sem, *]) rfl ⟨u, v, by omega, rfl, by have := HW.out; go_grown⟩
set_option maxHeartbeats 1000000 in
theorem wordEnd (p : Nat) (x y : Int) (w : World) (h : Item 0 w p x y) : Calls Try.prog 49 #[.pointer (some ⟨p, 0, none⟩)] w (AggP x y w) := by
  obtain ⟨q, r, -, c1, c2, hL⟩ := h.ex
  have l1 := cell_lt c1
  have l2 := cell_lt c2
  have hm : ∀ w : World, (method 145 62 (.pointer (some ⟨r, 0, none⟩)) "End").run Try.prog w = .ok (48, .pointer (some ⟨r, 0, none⟩)) w := fun _ => by kernel_rfl
  go_enter Try.func49, Try.ntmps49
  go_wp2
  obtain ⟨W, hW⟩ : ∃ W : World, W = w.alloc (.cells #[.int .u32 0, .int .u32 0] 26) := ⟨_, rfl⟩
  rw [← hW]
  have d1 : W.cell? ⟨p, 0, none⟩ = some (.slice (some ⟨q, 0, none⟩) 1 1) := by rw [hW]; exact ck _ c1
  have d2 : W.cell? ⟨q, 0, none⟩ = some (.iface 62 (.pointer (some ⟨r, 0, none⟩))) := by rw [hW]; exact ck _ c2
  have z0 : W.cell? ⟨w.heap.size, 0, none⟩ = some (.int .u32 0) := by rw [hW]; simp [go_sem]
  have z1 : W.cell? ⟨w.heap.size, 1, none⟩ = some (.int .u32 0) := by rw [hW]; simp [go_sem]
  have f0 : W.frozen? ⟨w.heap.size, 0, none⟩ = false := by rw [hW]; simp [go_sem]
  have f1 : W.frozen? ⟨w.heap.size, 1, none⟩ = false := by rw [hW]; simp [go_sem]
  have hbW : Below w.heap.size w W := by rw [hW]; exact (Below.refl _ _).alloc (Nat.le_refl _) _
  have hsz : w.heap.size < W.heap.size := by rw [hW]; simp
  have HBW := Lib.hid hbW
  have HL := Lib.hid (show LitAt W.drew r x y x y from (hL.keep hbW).keep ((Below.refl _ _).drew))
  clear hW c1 c2 hL h hbW
  have i0 : IntKind.i64.wrap 0 = 0 := by decide
  have n1 : p ≠ w.heap.size := Nat.ne_of_lt l1
  have n2 : q ≠ w.heap.size := Nat.ne_of_lt l2
  go_region_held3 (fun w' => w'.cell? ⟨p, 0, none⟩ = some (.slice (some ⟨q, 0, none⟩) 1 1) ∧ w'.cell? ⟨q, 0, none⟩ = some (.iface 62 (.pointer (some ⟨r, 0, none⟩))))
    (first | exact ⟨d1, d2⟩ | exact ⟨k1, k2⟩ | exact ⟨cell_set (cell_set k1 n1) n1, cell_set (cell_set k2 n2) n2⟩)
    ((go_at_call 48; refine (litEnd r x y x y W.drew HL.out).mono ?_; rintro e w1 ⟨rfl, hb⟩; have hb1 : Below W.heap.size W w1 := ⟨hb.os, hb.tape, hb.output, hb.size, hb.block⟩; have k1 := cb hb1 (cell_lt d1) d1; have k2 := cb hb1 (cell_lt d2) d2; have y0 := cb hb1 (cell_lt z0) z0; have y1 := cb hb1 (cell_lt z1) z1; have g0 := (hb1.frozen (p := ⟨w.heap.size, 0, none⟩) hsz).trans f0; have g1 := (hb1.frozen (p := ⟨w.heap.size, 1, none⟩) hsz).trans f1; clear hb))
  rename_i hHeld
  clear hHeld
  have HB1 := Lib.hid (HBW.out.trans (hb1.mono (Nat.le_of_lt hsz)))
  clear hb1
  go_wp2
  exact bodyPost_ret (v := .agg #[.int .u32 x, .int .u32 y]) (by simp [results, Try.results49, go_sem, *]) rfl ⟨rfl, by have := HB1.out; go_grown⟩
/-- the End of the last of n words -/
def LastAt (w : World) (la n : Nat) (x y : Int) : Prop := ∃ p, w.cell? ⟨la, n - 1, none⟩ = some (.pointer (some ⟨p, 0, none⟩)) ∧ Item 0 w p x y
theorem LastAt.keep {w w' : World} {la n : Nat} {x y : Int} (h : LastAt w la n x y) (hb : Below w.heap.size w w') : LastAt w' la n x y := by
  obtain ⟨p, h1, h2⟩ := h
  exact ⟨p, cb hb (cell_lt h1) h1, h2.keep hb⟩
set_option maxHeartbeats 1000000 in
theorem lastEnd (la n : Nat) (x y : Int) (w : World) (h0 : 0 < n) (hn : n ≤ 65536) (h : LastAt w la n x y) : Calls Try.prog 46 #[.slice (some ⟨la, 0, none⟩) n n] w (AggP x y w) := by
  obtain ⟨p, c1, hI⟩ := h
  have l1 := cell_lt c1
  have HI := Lib.hid hI
  clear hI
  have t0 : ((n : Int) == 0) = false := by simp; omega
  have i1 : ((n : Int) - 1).toNat = n - 1 := by omega
  have i2 : IntKind.i64.wrap ((n : Int) - 1) = (n : Int) - 1 := IntWalk.i64_in _ (by omega)
  have i3 : (0 : Int) ≤ (n : Int) - 1 := by omega
  have i4 : (n : Int) - 1 < (n : Int) := by omega
  go_enter Try.func46, Try.ntmps46
  go_wp2_with fail
  with_reducible refine (wordEnd p x y _ (HI.out.keep ((Below.refl _ _).alloc (Nat.le_refl _) _))).mono ?_
  rintro e w2 ⟨rfl, hb⟩
  have z0 : w2.cell? ⟨w.heap.size, 0, none⟩ = some (.int .u32 0) := cb hb (by simp) (by simp [go_sem])
  have z1 : w2.cell? ⟨w.heap.size, 1, none⟩ = some (.int .u32 0) := cb hb (by simp) (by simp [go_sem])
  have f0 : w2.frozen? ⟨w.heap.size, 0, none⟩ = false := (hb.frozen (by simp)).trans (by simp [go_sem])
  have f1 : w2.frozen? ⟨w.heap.size, 1, none⟩ = false := (hb.frozen (by simp)).trans (by simp [go_sem])
  have HB := Lib.hid (((Below.refl w.heap.size w).alloc (Nat.le_refl _) _).trans (hb.mono (by simp)))
  clear hb
  go_wp2
  exact bodyPost_ret (v := .agg #[.int .u32 x, .int .u32 y]) (by simp [results, Try.results46, go_sem, *]) rfl ⟨rfl, by have := HB.out; go_grown⟩
/-- the cells of a WordIter -/
structure IterAt (w : World) (b nb : Nat) (x y : Int) (it : Value) : Prop where
  c0 : w.cell? ⟨b, 0, none⟩ = some (.pointer (some ⟨nb, 0, none⟩))
  c1 : w.cell? ⟨b, 1, none⟩ = some (.int .u32 x)
  c2 : w.cell? ⟨b, 2, none⟩ = some (.int .u32 y)
  c3 : w.cell? ⟨b, 3, none⟩ = some it
theorem IterAt.keep {w w' : World} {b nb : Nat} {x y : Int} {it : Value} (h : IterAt w b nb x y it) (hb : Below w.heap.size w w') : IterAt w' b nb x y it := by
  have hlt : b < w.heap.size := cell_lt h.c0
  exact ⟨cb hb hlt h.c0, cb hb hlt h.c1, cb hb hlt h.c2, cb hb hlt h.c3⟩
set_option maxHeartbeats 1000000 in
theorem iterPos (b nb : Nat) (x y p q u v : Int) (it : Value) (w : World) (h : IterAt w b nb x y it) (hL : LitAt w nb p q u v) : Calls Try.prog 35 #[.pointer (some ⟨b, 0, none⟩)] w (AggP p q w) := by
  obtain ⟨c0, -, -, -⟩ := h
  have l0 := cell_lt c0
  have HL := Lib.hid hL
  clear hL
  go_enter Try.func35, Try.ntmps35
  go_wp2_with fail
  with_reducible refine (litPos nb p q u v _ (HL.out.keep ((Below.refl _ _).alloc (Nat.le_refl _) _))).mono ?_
  rintro e w2 ⟨rfl, hb⟩
  have z0 : w2.cell? ⟨w.heap.size, 0, none⟩ = some (.int .u32 0) := cb hb (by simp) (by simp [go_sem])
  have z1 : w2.cell? ⟨w.heap.size, 1, none⟩ = some (.int .u32 0) := cb hb (by simp) (by simp [go_sem])
  have f0 : w2.frozen? ⟨w.heap.size, 0, none⟩ = false := (hb.frozen (by simp)).trans (by simp [go_sem])
  have f1 : w2.frozen? ⟨w.heap.size, 1, none⟩ = false := (hb.frozen (by simp)).trans (by simp [go_sem])
  have HB := Lib.hid (((Below.refl w.heap.size w).alloc (Nat.le_refl _) _).trans (hb.mono (by simp)))
  clear hb
  go_wp2
  exact bodyPost_ret (v := .agg #[.int .u32 p, .int .u32 q]) (by simp [results, Try.results35, go_sem, *]) rfl ⟨rfl, by have := HB.out; go_grown⟩
set_option maxHeartbeats 1000000 in
theorem iterEnd_items (b nb la n : Nat) (x y p q : Int) (w : World) (h0 : 0 < n) (hn : n ≤ 65536) (h : IterAt w b nb x y (.slice (some ⟨la, 0, none⟩) n n)) (hL : LastAt w la n p q) : Calls Try.prog 36 #[.pointer (some ⟨b, 0, none⟩)] w (AggP p q w) := by
  obtain ⟨-, -, -, c3⟩ := h
  have l0 := cell_lt c3
  have HL := Lib.hid hL
  clear hL
  have i1 : (0 : Int) < (n : Int) := by omega
  go_enter Try.func36, Try.ntmps36
  go_wp2_with fail
  with_reducible refine (lastEnd la n p q _ h0 hn (HL.out.keep ((Below.refl _ _).alloc (Nat.le_refl _) _))).mono ?_
  rintro e w2 ⟨rfl, hb⟩
  have z0 : w2.cell? ⟨w.heap.size, 0, none⟩ = some (.int .u32 0) := cb hb (by simp) (by simp [go_sem])
  have z1 : w2.cell? ⟨w.heap.size, 1, none⟩ = some (.int .u32 0) := cb hb (by simp) (by simp [go_sem])
  have f0 : w2.frozen? ⟨w.heap.size, 0, none⟩ = false := (hb.frozen (by simp)).trans (by simp [go_sem])
  have f1 : w2.frozen? ⟨w.heap.size, 1, none⟩ = false := (hb.frozen (by simp)).trans (by simp [go_sem])
  have HB := Lib.hid (((Below.refl w.heap.size w).alloc (Nat.le_refl _) _).trans (hb.mono (by simp)))
  clear hb
  go_wp2
  exact bodyPost_ret (v := .agg #[.int .u32 p, .int .u32 q]) (by simp [results, Try.results36, go_sem, *]) rfl ⟨rfl, by have := HB.out; go_grown⟩
end Go.Proofs.Ytngbfadnmeohnaa.iter
