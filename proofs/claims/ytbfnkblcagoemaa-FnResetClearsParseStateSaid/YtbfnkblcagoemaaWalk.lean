/-
  The walk of FnResetClearsParseState: for every dirty state that can be read it answers true. Conditions: the slices can be read; their lengths are at most the greatest.
-/
import Derived.Test.YtbfnkblcagoemaaBuild
import Derived.Test.YtbfnkblcagoemaaRead
namespace Go.Proofs.Ytbfnkblcagoemaa.dirty
open Go.ChangeShapes Go.WideShapes Go.ChangeAt Go.RowKit Go.Proofs.Ytbfnkblcagoemaa.own Go.Proofs.Ytbfnkblcagoemaa.posn Go.Proofs.Ytbfnkblcagoemaa.resets
set_option linter.unusedVariables false
theorem NR.hr {w : World} {x : SL} {s : Nat → SL} {f : Nat → Nat → UInt8} (h : NR w x s f) : HR w x s := by
  rcases h with ⟨_, h, _⟩ | ⟨a, ha, h | ⟨b, off, he, hc⟩⟩
  · exact .inl h
  · exact .inl h
  · exact .inr ⟨b, off, by rw [ha, he], fun i hi => (hc i hi).1⟩
theorem nb_conv {B : Nat} {x : SL} {l : List UInt8} {w : World} (h : NB B x l w) : (convert 23 9 (.slice x.a x.n x.c)).run Try.prog w = .ok (.string ⟨l.toArray⟩) w := by
  rcases h with ⟨rfl, rfl⟩ | ⟨g, rfl, h1, h2, hc⟩
  · exact run_convert_bytes_nil w 23 5 Try.underlying23 Try.underlying5 0 0 9 Try.underlying9
  · refine run_convert_bytes_back w 23 9 5 ⟨g, 0, none⟩ l.length l Try.underlying23 Try.underlying5 Try.underlying9 fun j hj => ?_
    have := hc j hj
    rwa [add_plain, Nat.zero_add]
/-- what is known of the state that came in -/
structure In (d : DS) (st : SL) (s : Nat → SL) (f1 f2 f4 : Nat → UInt8) (f3 : Nat → Nat → UInt8) (w : World) : Prop where
  h0 : d.val.size ≤ maxLen
  h1 : d.bs.n ≤ maxLen
  h2 : d.hs.n ≤ maxLen
  h3 : d.lit.n ≤ maxLen
  h4 : st.n ≤ maxLen
  hs : ∀ i, i < d.hs.n → (s i).n ≤ maxLen
  b1 : BR w d.bs f1
  b2 : BR w d.lit f2
  b3 : NR w d.hs s f3
  b4 : BR w st f4
set_option maxHeartbeats 8000000 in
set_option maxRecDepth 100000 in
theorem law_any (d : DS) (kc : Bool) (la rm : Int) (st : SL) (s : Nat → SL) (f1 f2 f4 : Nat → UInt8) (f3 : Nat → Nat → UInt8) (w : World) (hin : In d st s f1 f2 f4 f3 w) :
    Calls Try.prog 3 #[.agg d.arr, .bool kc, .int .i64 la, .int .i64 rm, .slice st.a st.n st.c] w fun e w' => e = .returned (.bool true) ∧ Below w.heap.size w w' := by
  have HI := Lib.hid hin
  clear hin
  go_enter Try.func3, Try.ntmps3
  generalize hA : DS.arr d = A
  iterate 7 go_step
  generalize hW : World.alloc _ _ = W
  have HBW := Lib.hid (show Below w.heap.size w W by rw [← hW]; exact (Below.refl _ _).alloc (Nat.le_refl _) _)
  have HHW := Lib.hid (show Holds w.heap.size d W by rw [← hW, ← hA]; exact Holds.new d w)
  generalize hg0 : w.heap.size = g0 at *
  have HG := Lib.hid hg0
  clear hW hA hg0
  go_wp2_with (refine wpList_load_row rfl 27 _ rfl g0 (by simp [go_sem]) 27 d.arr (0, 0) _ HHW.out Try.underlying27 rfl (size27 d) ?_)
  refine (bytes_any d kc la rm st s W HI.out.h0 HI.out.h1 HI.out.h2 HI.out.h3 HI.out.h4 HI.out.hs ((HI.out.b3.hr).below HBW.out (Nat.le_of_eq HG.out))).mono ?_
  rintro e w1 ⟨b, hbig, rfl, hb⟩
  have HB1 := Lib.hid (HBW.out.trans (hb.mono (Nat.le_of_lt HHW.out.lt)))
  have HH1 := Lib.hid (HHW.out.below hb HHW.out.lt)
  clear hb
  cases b
  · go_wp2_with fail
    go_ret
    exact ⟨rfl, by have h := HB1.out; rw [← HG.out] at h; exact h⟩
  have HBIG := Lib.hid (hbig rfl)
  clear hbig
  go_wp2_with (refine wpList_load_row rfl 27 _ rfl g0 (by simp [go_sem]) 27 d.arr (0, 0) _ HH1.out Try.underlying27 rfl (size27 d) ?_)
  refine (tooBig_any d st s w1 HBIG.out ((HI.out.b3.hr).below HB1.out (Nat.le_of_eq HG.out))).mono ?_
  rintro e w2 ⟨b, hsm, rfl, hb⟩
  have HB2 := Lib.hid (HB1.out.trans (hb.mono (Nat.le_of_lt HH1.out.lt)))
  have HH2 := Lib.hid (HH1.out.below hb HH1.out.lt)
  clear hb
  cases b
  rotate_left
  · go_wp2_with fail
    go_ret
    exact ⟨rfl, by have h := HB2.out; rw [← HG.out] at h; exact h⟩
  have HSM := Lib.hid (hsm rfl)
  clear hsm
  go_wp2_with (refine wpList_load_row rfl 27 _ rfl g0 (by simp [go_sem]) 27 d.arr (0, 0) _ HH2.out Try.underlying27 rfl (size27 d) ?_)
  refine (copy_any d s f1 f2 f3 w2 HBIG.out.2.1 HBIG.out.2.2.2.1 HBIG.out.2.2.1 HBIG.out.2.2.2.2.2 (HI.out.b1.below HB2.out (Nat.le_of_eq HG.out)) (HI.out.b2.below HB2.out (Nat.le_of_eq HG.out)) (HI.out.b3.below HB2.out (Nat.le_of_eq HG.out))).mono ?_
  rintro e w3 ⟨y3, y27, y20, rfl, hb⟩
  have HB3 := Lib.hid (HB2.out.trans (hb.mono (Nat.le_of_lt HH2.out.lt)))
  have HH3 := Lib.hid (HH2.out.below hb HH2.out.lt)
  obtain ⟨d2, hd2⟩ : ∃ d2 : DS, d2 = { d with bs := y3, lit := y27, hs := y20 } := ⟨_, rfl⟩
  rw [← hd2]
  have HS2 := Lib.hid (show Small d2 by rw [hd2]; exact HSM.out)
  have HE := Lib.hid (show d2.spaced = d.spaced ∧ d2.lastB = d.lastB ∧ d2.rxO = d.rxO ∧ d2.rxF = d.rxF ∧ d2.hdNil = d.hdNil by rw [hd2]; exact ⟨rfl, rfl, rfl, rfl, rfl⟩)
  have HB4 := Lib.hid (show Below g0 w (w3.setRow g0 d2.arr) from below_setRow HB3.out (Nat.le_refl _) _)
  have HH4 := Lib.hid (show Holds g0 d2 (w3.setRow g0 d2.arr) from setRow_heap _ _ _ _ 27 (0, 0) HH3.out)
  clear hb hd2
  go_wp2_with (refine wpList_store_row rfl 27 _ _ rfl g0 d2.arr (by simp [go_sem]) (by simp [go_sem]) 27 d.arr HH3.out (size27 d2) rfl (arr_one d2) ?_)
  generalize hw4 : w3.setRow g0 d2.arr = w4 at *
  clear hw4
  refine (cloneB_any st f4 w4 HBIG.out.2.2.2.2.1 (HI.out.b4.below HB4.out (Nat.le_of_eq HG.out))).mono ?_
  rintro e w5 ⟨y, l, rfl, hnb, hb⟩
  have HB5 := Lib.hid (HB4.out.trans (hb.mono (Nat.le_of_lt HH4.out.lt)))
  have HH5 := Lib.hid (HH4.out.below hb HH4.out.lt)
  have HN5 := Lib.hid hnb
  clear hb hnb
  go_wp2_with (refine wpList_load_row rfl 27 _ rfl g0 (by simp [go_sem]) 27 d2.arr (0, 0) _ HH5.out Try.underlying27 rfl (size27 d2) ?_)
  refine (build_any d2 kc la rm y w5 HS2.out).mono ?_
  rintro e w6 ⟨g, hd, rfl, hraw, hnil, hle, hgg, hb⟩
  have HB6 := Lib.hid (HB5.out.trans (hb.mono (Nat.le_of_lt HH5.out.lt)))
  have HH6 := Lib.hid (HH5.out.below hb HH5.out.lt)
  have HN6 := Lib.hid (HN5.out.below hb (Nat.le_refl _))
  have zg : g0 < g := Nat.lt_of_lt_of_le HH5.out.lt hgg
  have HZ := Lib.hid (show w5.heap.size ≤ g from hgg)
  have HRAW := Lib.hid hraw
  have HNIL := Lib.hid hnil
  clear hb hraw hnil hgg
  go_wp2_with fail
  refine (zreset_any HRAW.out hle).mono ?_
  rintro e w7 ⟨rfl, hrd, hb⟩
  have HB7 := Lib.hid (HB6.out.trans (hb.mono (Nat.le_of_lt zg)))
  have HH7 := Lib.hid (HH6.out.below hb zg)
  have HN7 := Lib.hid (show NB w4.heap.size y l w7 by
    rcases HN5.out with h | ⟨q, hx, q1, q2, hc⟩
    · exact .inl h
    · rcases HN6.out with h | ⟨q', hx', q1', q2', hc'⟩
      · exact .inl h
      · rw [hx] at hx'
        obtain rfl : q = q' := by simpa using hx'
        exact .inr ⟨q, hx, q1, Nat.lt_of_lt_of_le q2' hb.size, fun j hj => cb hb (Nat.lt_of_lt_of_le q2 HZ.out) (hc' j hj)⟩)
  have HRD := Lib.hid hrd
  clear hb hrd
  go_wp2_with fail
  refine (state_any g w7 hd.a hd.c _ _ _ _ _ _ _ (.slice y.a y.n y.c) y.a.isNone ⟨l.toArray⟩ HRD.out (fun w a b => rfl) (fun w => Lib.run_eql_slice_nil (P := Try.prog) w 23 5 y.a y.n y.c 0 0 Try.underlying23) (fun W2 h2 => nb_conv (HN7.out.below h2 (Nat.le_refl _)))).mono ?_
  rintro e w8 ⟨rfl, hb⟩
  have HB8 := Lib.hid (HB7.out.trans (hb.mono (Nat.le_of_lt HH7.out.lt)))
  have HH8 := Lib.hid (HH7.out.below hb HH7.out.lt)
  have HN8 := Lib.hid (HN7.out.below hb (Nat.le_refl _))
  have HRD8 := Lib.hid (HRD.out.below hb)
  clear hb
  obtain ⟨e1, e2, e3, e4, e5⟩ := HE.out


  dsimp only
  iterate 4 go_step
  have hsize : (Try.prog.info? 36).map (·.size) = some (stateV hd.a y.a.isNone d2.spaced d2.rxF kc d2.lastB d2.rxO la rm ⟨l.toArray⟩).size := by
    show _ = some 38
    kernel_rfl
  refine wpList_store_row rfl 36 _ _ rfl w8.heap.size (stateV hd.a y.a.isNone d2.spaced d2.rxF kc d2.lastB d2.rxO la rm ⟨l.toArray⟩) (by simp [go_sem]) (by simp [go_sem]) 36 zeroState (heap_alloc_new w8 _) hsize rfl (stateOne _ _ _ _ _ _ _ _ _ _) ?_
  clear hsize
  have HB9 : Below w8.heap.size w8 ((w8.alloc (.cells zeroState 36)).setRow w8.heap.size (stateV hd.a y.a.isNone d2.spaced d2.rxF kc d2.lastB d2.rxO la rm ⟨l.toArray⟩)) := below_setRow ((Below.refl _ _).alloc (Nat.le_refl _) _) (Nat.le_refl _) _
  have HROW : ((w8.alloc (.cells zeroState 36)).setRow w8.heap.size (stateV hd.a y.a.isNone d2.spaced d2.rxF kc d2.lastB d2.rxO la rm ⟨l.toArray⟩)).heap[w8.heap.size]? = some (.cells (stateV hd.a y.a.isNone d2.spaced d2.rxF kc d2.lastB d2.rxO la rm ⟨l.toArray⟩) 36 (0, 0)) := setRow_heap _ _ zeroState _ 36 (0, 0) (heap_alloc_new w8 _)
  change wpList _ _ _ _ _ ((w8.alloc (.cells zeroState 36)).setRow w8.heap.size (stateV hd.a y.a.isNone d2.spaced d2.rxF kc d2.lastB d2.rxO la rm ⟨l.toArray⟩))
  generalize hw9 : (w8.alloc (.cells zeroState 36)).setRow w8.heap.size (stateV hd.a y.a.isNone d2.spaced d2.rxF kc d2.lastB d2.rxO la rm ⟨l.toArray⟩) = w9 at *
  have HBa := Lib.hid (HB8.out.trans (HB9.mono (Nat.le_of_lt HH8.out.lt)))
  have HHa := Lib.hid (HH8.out.below HB9 HH8.out.lt)
  have HNa := Lib.hid (HN8.out.below HB9 (Nat.le_refl _))
  have HRDa := Lib.hid (HRD8.out.below HB9)
  generalize hsv : (stateV hd.a y.a.isNone d2.spaced d2.rxF kc d2.lastB d2.rxO la rm ⟨l.toArray⟩) = SV at *
  have HSV := Lib.hid hsv
  generalize hg9 : w8.heap.size = g9 at *
  have S := fun k => cell_of_row w9 g9 k SV 36 _ HROW
  rw [← hsv] at S
  have HC := nb_conv HNa.out
  have HQ := Lib.run_eql_slice_nil (P := Try.prog) w9 23 5 y.a y.n y.c 0 0 Try.underlying23
  have s0 : w9.cell? ⟨g9, 0, none⟩ = some (.int .u32 0) := S 0
  have s1 : w9.cell? ⟨g9, 1, none⟩ = some (.string ⟨#[]⟩) := S 1
  have s2 : w9.cell? ⟨g9, 2, none⟩ = some (.int .i64 0) := S 2
  have s3 : w9.cell? ⟨g9, 3, none⟩ = some (.bool true) := S 3
  have s4 : w9.cell? ⟨g9, 4, none⟩ = some (.int .u64 0) := S 4
  have s5 : w9.cell? ⟨g9, 5, none⟩ = some (.int .i64 0) := S 5
  have s6 : w9.cell? ⟨g9, 6, none⟩ = some (.int .i64 1) := S 6
  have s7 : w9.cell? ⟨g9, 7, none⟩ = some (.int .i64 1) := S 7
  have s8 : w9.cell? ⟨g9, 8, none⟩ = some (.int .i32 0) := S 8
  have s9 : w9.cell? ⟨g9, 9, none⟩ = some (.int .i64 0) := S 9
  have s10 : w9.cell? ⟨g9, 10, none⟩ = some (.bool true) := S 10
  have s11 : w9.cell? ⟨g9, 11, none⟩ = some (.bool true) := S 11
  have s12 : w9.cell? ⟨g9, 12, none⟩ = some (.bool false) := S 12
  have s13 : w9.cell? ⟨g9, 13, none⟩ = some (.int .u32 1) := S 13
  have s14 : w9.cell? ⟨g9, 14, none⟩ = some (.bool false) := S 14
  have s15 : w9.cell? ⟨g9, 15, none⟩ = some (.int .i64 0) := S 15
  have s16 : w9.cell? ⟨g9, 16, none⟩ = some (.int .i64 0) := S 16
  have s17 : w9.cell? ⟨g9, 17, none⟩ = some (.int .i64 0) := S 17
  have s18 : w9.cell? ⟨g9, 18, none⟩ = some (.bool d.hdNil) := by rw [← e5, ← HNIL.out]; exact S 18
  have s19 : w9.cell? ⟨g9, 19, none⟩ = some (.int .i64 0) := S 19
  have s20 : w9.cell? ⟨g9, 20, none⟩ = some (.bool true) := S 20
  have s21 : w9.cell? ⟨g9, 21, none⟩ = some (.bool false) := S 21
  have s22 : w9.cell? ⟨g9, 22, none⟩ = some (.int .i64 0) := S 22
  have s23 : w9.cell? ⟨g9, 23, none⟩ = some (.int .i64 0) := S 23
  have s24 : w9.cell? ⟨g9, 24, none⟩ = some (.bool true) := S 24
  have s25 : w9.cell? ⟨g9, 25, none⟩ = some (.bool true) := S 25
  have s26 : w9.cell? ⟨g9, 26, none⟩ = some (.bool true) := S 26
  have s27 : w9.cell? ⟨g9, 27, none⟩ = some (.bool true) := S 27
  have s28 : w9.cell? ⟨g9, 28, none⟩ = some (.bool true) := S 28
  have s29 : w9.cell? ⟨g9, 29, none⟩ = some (.bool d.spaced) := by rw [← e1]; exact S 29
  have s30 : w9.cell? ⟨g9, 30, none⟩ = some (.int .i64 d.lastB) := by rw [← e2]; exact S 30
  have s31 : w9.cell? ⟨g9, 31, none⟩ = some (.int .i64 d.rxO) := by rw [← e3]; exact S 31
  have s32 : w9.cell? ⟨g9, 32, none⟩ = some (.bool d.rxF) := by rw [← e4]; exact S 32
  have s33 : w9.cell? ⟨g9, 33, none⟩ = some (.bool kc) := S 33
  have s34 : w9.cell? ⟨g9, 34, none⟩ = some (.int .i64 la) := S 34
  have s35 : w9.cell? ⟨g9, 35, none⟩ = some (.int .i64 rm) := S 35
  have s36 : w9.cell? ⟨g9, 36, none⟩ = some (.string ⟨l.toArray⟩) := S 36
  have s37 : w9.cell? ⟨g9, 37, none⟩ = some (.bool y.a.isNone) := S 37
  have t17 : w9.cell? ⟨g0, 17, none⟩ = some (.bool d.hdNil) := by rw [← e5]; exact HHa.out.cell 17
  have t28 : w9.cell? ⟨g0, 28, none⟩ = some (.bool d.spaced) := by rw [← e1]; exact HHa.out.cell 28
  have t29 : w9.cell? ⟨g0, 29, none⟩ = some (.int .i64 d.lastB) := by rw [← e2]; exact HHa.out.cell 29
  have t30 : w9.cell? ⟨g0, 30, none⟩ = some (.int .i64 d.rxO) := by rw [← e3]; exact HHa.out.cell 30
  have t31 : w9.cell? ⟨g0, 31, none⟩ = some (.bool d.rxF) := by rw [← e4]; exact HHa.out.cell 31
  clear S HROW hsv hw9 HB9 e1 e2 e3 e4 e5 hg9
  clear HB8 HH8 HN8 HRD8 HRD HN7 HH7 HB7 HNIL HRAW HZ HN6 HH6 HB6 HN5 HH5 HB5 HE HS2 HH4 HB4 HB3 HH3 HSM HBIG HB2 HH2 HB1 HH1 HHW HBW HSV
  go_wp2_with fail
  refine (incomplete_any HRDa.out).mono ?_
  rintro e w10 ⟨rfl, rfl⟩
  go_wp2_with fail
  refine (next_any HRDa.out).mono ?_
  rintro e wb ⟨rfl, hb⟩
  have HBb := Lib.hid (HBa.out.trans (hb.mono (Nat.le_of_lt HHa.out.lt)))
  have hlt := Nat.lt_of_lt_of_le HHa.out.lt hb.size
  clear hb
  go_wp2_with fail
  refine (newPos_below 0 1 1 wb (by omega) (by omega) (by omega)).mono ?_
  rintro e wc ⟨rfl, hb⟩
  have HBc := Lib.hid (HBb.out.trans (hb.mono (Nat.le_of_lt hlt)))
  rw [show offN 0 = 0 from rfl, show lcN 1 1 = 16385 from rfl]
  clear hb
  go_wp2_with fail
  go_ret
  exact ⟨rfl, by have h := HBc.out; rw [← HG.out] at h; exact h⟩

end Go.Proofs.Ytbfnkblcagoemaa.dirty
