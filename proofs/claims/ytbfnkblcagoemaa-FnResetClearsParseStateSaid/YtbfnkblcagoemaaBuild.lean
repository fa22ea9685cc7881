/-
  What zzBuildDirty does: a new parser of which the fields that reset leaves alone are as handed in. Conditions: the batch counts lie in 0..4096.
-/
import Derived.Test.YtbfnkblcagoemaaMake
namespace Go.Proofs.Ytbfnkblcagoemaa.dirty
open Go.ChangeShapes Go.WideShapes Go.ChangeAt Go.RowKit Go.Proofs.Ytbfnkblcagoemaa.own Go.Proofs.Ytbfnkblcagoemaa.posn Go.Proofs.Ytbfnkblcagoemaa.resets
set_option linter.unusedVariables false
theorem i65 : (Try.prog.info? 104).map (fun i => (i.zero, i.size, i.bytes)) = some (some (.pointer none), 1, 8) := by kernel_rfl
theorem i66 : (Try.prog.info? 106).map (fun i => (i.zero, i.size, i.bytes)) = some (some (.agg #[.int .u32 0, .int .u32 0, .string ⟨#[]⟩]), 3, 24) := by kernel_rfl
theorem i67 : (Try.prog.info? 57).map (fun i => (i.zero, i.size, i.bytes)) = some (some (.agg #[.int .u32 0, .int .u32 0, .int .u32 0, .int .u32 0, .string ⟨#[]⟩]), 5, 32) := by kernel_rfl
def Bd (d : DS) (kc : Bool) (la rm : Int) (st : SL) (w : World) (e : Ending) (w' : World) : Prop :=
  ∃ g hd, e = .returned (.pointer (some ⟨g, 0, none⟩)) ∧ Raw g hd d.spaced d.lastB d.rxO d.rxF kc la rm st w' ∧ hd.a.isNone = d.hdNil ∧ hd.n ≤ hd.c ∧ w.heap.size ≤ g ∧ Below w.heap.size w w'
set_option maxHeartbeats 8000000 in
theorem build_nil (d : DS) (kc : Bool) (la rm : Int) (st : SL) (w : World) (hsm : Small d) (hnil : d.hdNil = true) :
    Calls Try.prog 13 #[.agg d.arr, .bool kc, .int .i64 la, .int .i64 rm, .slice st.a st.n st.c] w (Bd d kc la rm st w) := by
  obtain ⟨⟨p1, p2⟩, ⟨p3, p4⟩, ⟨p5, p6⟩, ⟨p7, p8⟩⟩ := hsm
  obtain ⟨nH, eH'⟩ := Int.eq_ofNat_of_zero_le p1
  obtain ⟨nC, eC'⟩ := Int.eq_ofNat_of_zero_le p3
  obtain ⟨nL, eL'⟩ := Int.eq_ofNat_of_zero_le p5
  obtain ⟨nW, eW'⟩ := Int.eq_ofNat_of_zero_le p7
  have mH : nH ≤ 4096 := by omega
  have mC : nC ≤ 4096 := by omega
  have mL : nL ≤ 4096 := by omega
  have mW : nW ≤ 4096 := by omega
  have eH := Lib.hid eH'
  have eC := Lib.hid eC'
  have eL := Lib.hid eL'
  have eW := Lib.hid eW'
  have HN := Lib.hid hnil
  clear eH' eC' eL' eW' p1 p2 p3 p4 p5 p6 p7 p8 hnil
  go_enter Try.func13, Try.ntmps13
  generalize hA : DS.arr d = A
  iterate 7 go_step
  generalize hW : World.alloc _ _ = W
  have HBW := Lib.hid (show Below w.heap.size w W by rw [← hW]; exact (Below.refl _ _).alloc (Nat.le_refl _) _)
  have HHW := Lib.hid (show Holds w.heap.size d W by rw [← hW, ← hA]; exact Holds.new d w)
  generalize hg0 : w.heap.size = g0 at *
  have HG := Lib.hid hg0
  clear hW hA hg0
  have c17 : W.cell? ⟨g0, 17, none⟩ = some (.bool true) := by rw [← HN.out]; exact HHW.out.cell 17
  have c24_W : W.cell? ⟨g0, 24, none⟩ = some (.int .i64 (nC : Int)) := by rw [← eC.out]; exact HHW.out.cell 24
  obtain ⟨ib, hib, hz0b, hz1b, hz2b⟩ := info_parts i66
  go_wp2_with (at_make; refine wpList_make_full _ rfl _ _ 66 rfl W.heap.size 106 ib _ 3 Try.underlying66 hib hz0b hz1b .i64 .i64 _ _ nC rfl rfl ?c0 ?c1 ?c2 ?c3 ?c4 ?_)
  case c0 => rfl
  case c1 => rfl
  case c2 => rw [hz2b]; omega
  case c3 => unfold maxLen; omega
  case c4 => exact Nat.le_refl _
  intro w2 hown hgrow
  have hbb := Lib.hid (show Below g0 w w2 from HBW.out.grown hgrow (by have := HHW.out.lt; omega) (fun k h => by cases h))
  have hhb := Lib.hid (show Holds g0 d w2 from HHW.out.below (Below.grown (Below.refl W.heap.size W) hgrow (Nat.le_refl _) (fun k h => by cases h)) HHW.out.lt)
  have HBw2 := hbb
  have HHw2 := hhb
  clear hown hgrow hbb hhb hib hz0b hz1b hz2b
  have c25_w2 : w2.cell? ⟨g0, 25, none⟩ = some (.int .i64 (nL : Int)) := by rw [← eL.out]; exact HHw2.out.cell 25
  obtain ⟨ic, hic, hz0c, hz1c, hz2c⟩ := info_parts i67
  go_wp2_with (at_make; refine wpList_make_full _ rfl _ _ 67 rfl w2.heap.size 57 ic _ 5 Try.underlying67 hic hz0c hz1c .i64 .i64 _ _ nL rfl rfl ?c0 ?c1 ?c2 ?c3 ?c4 ?_)
  case c0 => rfl
  case c1 => rfl
  case c2 => rw [hz2c]; omega
  case c3 => unfold maxLen; omega
  case c4 => exact Nat.le_refl _
  intro w3 hown hgrow
  have hbc := Lib.hid (show Below g0 w w3 from HBw2.out.grown hgrow (by have := HHw2.out.lt; omega) (fun k h => by cases h))
  have hhc := Lib.hid (show Holds g0 d w3 from HHw2.out.below (Below.grown (Below.refl w2.heap.size w2) hgrow (Nat.le_refl _) (fun k h => by cases h)) HHw2.out.lt)
  have HBw3 := hbc
  have HHw3 := hhc
  clear hown hgrow hbc hhc hic hz0c hz1c hz2c
  have HD := Lib.hid (show ((⟨none, 0, 0⟩ : SL)).a.isNone = d.hdNil ∧ ((⟨none, 0, 0⟩ : SL)).n ≤ ((⟨none, 0, 0⟩ : SL)).c by rw [HN.out]; exact ⟨rfl, Nat.le_refl _⟩)
  have c0_w3 : w3.cell? ⟨g0, 0, none⟩ = some (.int .u32 d.tok) := HHw3.out.cell 0
  have c1_w3 : w3.cell? ⟨g0, 1, none⟩ = some (.string d.val) := HHw3.out.cell 1
  have c2_w3 : w3.cell? ⟨g0, 2, none⟩ = some (.int .i64 d.eql) := HHw3.out.cell 2
  have c3_w3 : w3.cell? ⟨g0, 3, none⟩ = some (.slice d.bs.a d.bs.n d.bs.c) := HHw3.out.cell 3
  have c4_w3 : w3.cell? ⟨g0, 4, none⟩ = some (.int .u64 d.bsp) := HHw3.out.cell 4
  have c5_w3 : w3.cell? ⟨g0, 5, none⟩ = some (.int .i64 d.offs) := HHw3.out.cell 5
  have c6_w3 : w3.cell? ⟨g0, 6, none⟩ = some (.int .i64 d.line) := HHw3.out.cell 6
  have c7_w3 : w3.cell? ⟨g0, 7, none⟩ = some (.int .i64 d.col) := HHw3.out.cell 7
  have c8_w3 : w3.cell? ⟨g0, 8, none⟩ = some (.int .i32 d.r) := HHw3.out.cell 8
  have c9_w3 : w3.cell? ⟨g0, 9, none⟩ = some (.int .i64 d.wd) := HHw3.out.cell 9
  have c12_w3 : w3.cell? ⟨g0, 12, none⟩ = some (.bool d.readEOF) := HHw3.out.cell 12
  have c13_w3 : w3.cell? ⟨g0, 13, none⟩ = some (.int .u32 d.quote) := HHw3.out.cell 13
  have c14_w3 : w3.cell? ⟨g0, 14, none⟩ = some (.bool d.forbid) := HHw3.out.cell 14
  have c15_w3 : w3.cell? ⟨g0, 15, none⟩ = some (.int .i64 d.openN) := HHw3.out.cell 15
  have c16_w3 : w3.cell? ⟨g0, 16, none⟩ = some (.int .i64 d.recov) := HHw3.out.cell 16
  have c18_w3 : w3.cell? ⟨g0, 18, none⟩ = some (.int .i64 (nH : Int)) := by rw [← eH.out]; exact HHw3.out.cell 18
  have c19_w3 : w3.cell? ⟨g0, 19, none⟩ = some (.int .i64 d.buried) := HHw3.out.cell 19
  have c20_w3 : w3.cell? ⟨g0, 20, none⟩ = some (.slice d.hs.a d.hs.n d.hs.c) := HHw3.out.cell 20
  have c21_w3 : w3.cell? ⟨g0, 21, none⟩ = some (.bool d.parsing) := HHw3.out.cell 21
  have c22_w3 : w3.cell? ⟨g0, 22, none⟩ = some (.int .i64 d.oB) := HHw3.out.cell 22
  have c23_w3 : w3.cell? ⟨g0, 23, none⟩ = some (.int .i64 d.oBD) := HHw3.out.cell 23
  have c24_w3 : w3.cell? ⟨g0, 24, none⟩ = some (.int .i64 (nC : Int)) := by rw [← eC.out]; exact HHw3.out.cell 24
  have c25_w3 : w3.cell? ⟨g0, 25, none⟩ = some (.int .i64 (nL : Int)) := by rw [← eL.out]; exact HHw3.out.cell 25
  have c26_w3 : w3.cell? ⟨g0, 26, none⟩ = some (.int .i64 (nW : Int)) := by rw [← eW.out]; exact HHw3.out.cell 26
  have c27_w3 : w3.cell? ⟨g0, 27, none⟩ = some (.slice d.lit.a d.lit.n d.lit.c) := HHw3.out.cell 27
  have c28_w3 : w3.cell? ⟨g0, 28, none⟩ = some (.bool d.spaced) := HHw3.out.cell 28
  have c29_w3 : w3.cell? ⟨g0, 29, none⟩ = some (.int .i64 d.lastB) := HHw3.out.cell 29
  have c30_w3 : w3.cell? ⟨g0, 30, none⟩ = some (.int .i64 d.rxO) := HHw3.out.cell 30
  have c31_w3 : w3.cell? ⟨g0, 31, none⟩ = some (.bool d.rxF) := HHw3.out.cell 31
  go_wp2_with fail
  refine (dirty_any d ⟨none, 0, 0⟩ ⟨_, _, _⟩ ⟨_, _, _⟩ kc la rm st nW w3 mW).mono ?_
  rintro e w4 ⟨g, rfl, hr4, hg4, hb4⟩
  have z4 : g0 < g := Nat.lt_of_lt_of_le HHw3.out.lt hg4
  have HH4 := Lib.hid (HHw3.out.below hb4 HHw3.out.lt)
  have HB4 := Lib.hid (HBw3.out.trans (hb4.mono (Nat.le_of_lt HHw3.out.lt)))
  have HR4 := Lib.hid hr4
  clear hr4 hb4 c0_w3 c1_w3 c2_w3 c3_w3 c4_w3 c5_w3 c6_w3 c7_w3 c8_w3 c9_w3 c12_w3 c13_w3 c14_w3 c15_w3 c16_w3 c18_w3 c19_w3 c20_w3 c21_w3 c22_w3 c23_w3 c24_w3 c25_w3 c26_w3 c27_w3 c28_w3 c29_w3 c30_w3 c31_w3
  cases herrSet : d.errSet
  · have c10_4 : w4.cell? ⟨g0, 10, none⟩ = some (.bool false) := by rw [← herrSet]; exact HH4.out.cell 10
    cases hreadErrSet : d.readErrSet
    · have c11_4 : w4.cell? ⟨g0, 11, none⟩ = some (.bool false) := by rw [← hreadErrSet]; exact HH4.out.cell 11
      go_wp2_with fail
      go_ret
      exact ⟨g, ⟨none, 0, 0⟩, rfl, HR4.out, HD.out.1, HD.out.2, by have := HG.out; omega, by have h := HB4.out; rw [← HG.out] at h; exact h⟩
    · have c11_4 : w4.cell? ⟨g0, 11, none⟩ = some (.bool true) := by rw [← hreadErrSet]; exact HH4.out.cell 11
      go_wp2_with fail
      refine (setReadErr_any HR4.out).mono ?_
      rintro e w5 ⟨rfl, hr5, hb5⟩
      have HH5 := Lib.hid (HH4.out.below hb5 z4)
      have HB5 := Lib.hid (HB4.out.trans (hb5.mono (Nat.le_of_lt z4)))
      have HR5 := Lib.hid hr5
      clear hr5 hb5
      go_wp2_with fail
      go_ret
      exact ⟨g, ⟨none, 0, 0⟩, rfl, HR5.out, HD.out.1, HD.out.2, by have := HG.out; omega, by have h := HB5.out; rw [← HG.out] at h; exact h⟩
  · have c10_4 : w4.cell? ⟨g0, 10, none⟩ = some (.bool true) := by rw [← herrSet]; exact HH4.out.cell 10
    go_wp2_with fail
    refine (setErr_any HR4.out).mono ?_
    rintro e w5 ⟨rfl, hr5, hb5⟩
    have HH5 := Lib.hid (HH4.out.below hb5 z4)
    have HB5 := Lib.hid (HB4.out.trans (hb5.mono (Nat.le_of_lt z4)))
    have HR5 := Lib.hid hr5
    clear hr5 hb5
    cases hreadErrSet : d.readErrSet
    · have c11_5 : w5.cell? ⟨g0, 11, none⟩ = some (.bool false) := by rw [← hreadErrSet]; exact HH5.out.cell 11
      go_wp2_with fail
      go_ret
      exact ⟨g, ⟨none, 0, 0⟩, rfl, HR5.out, HD.out.1, HD.out.2, by have := HG.out; omega, by have h := HB5.out; rw [← HG.out] at h; exact h⟩
    · have c11_5 : w5.cell? ⟨g0, 11, none⟩ = some (.bool true) := by rw [← hreadErrSet]; exact HH5.out.cell 11
      go_wp2_with fail
      refine (setReadErr_any HR5.out).mono ?_
      rintro e w6 ⟨rfl, hr6, hb6⟩
      have HH6 := Lib.hid (HH5.out.below hb6 z4)
      have HB6 := Lib.hid (HB5.out.trans (hb6.mono (Nat.le_of_lt z4)))
      have HR6 := Lib.hid hr6
      clear hr6 hb6
      go_wp2_with fail
      go_ret
      exact ⟨g, ⟨none, 0, 0⟩, rfl, HR6.out, HD.out.1, HD.out.2, by have := HG.out; omega, by have h := HB6.out; rw [← HG.out] at h; exact h⟩
set_option maxHeartbeats 8000000 in
theorem build_row (d : DS) (kc : Bool) (la rm : Int) (st : SL) (w : World) (hsm : Small d) (hnil : d.hdNil = false) :
    Calls Try.prog 13 #[.agg d.arr, .bool kc, .int .i64 la, .int .i64 rm, .slice st.a st.n st.c] w (Bd d kc la rm st w) := by
  obtain ⟨⟨p1, p2⟩, ⟨p3, p4⟩, ⟨p5, p6⟩, ⟨p7, p8⟩⟩ := hsm
  obtain ⟨nH, eH'⟩ := Int.eq_ofNat_of_zero_le p1
  obtain ⟨nC, eC'⟩ := Int.eq_ofNat_of_zero_le p3
  obtain ⟨nL, eL'⟩ := Int.eq_ofNat_of_zero_le p5
  obtain ⟨nW, eW'⟩ := Int.eq_ofNat_of_zero_le p7
  have mH : nH ≤ 4096 := by omega
  have mC : nC ≤ 4096 := by omega
  have mL : nL ≤ 4096 := by omega
  have mW : nW ≤ 4096 := by omega
  have eH := Lib.hid eH'
  have eC := Lib.hid eC'
  have eL := Lib.hid eL'
  have eW := Lib.hid eW'
  have HN := Lib.hid hnil
  clear eH' eC' eL' eW' p1 p2 p3 p4 p5 p6 p7 p8 hnil
  go_enter Try.func13, Try.ntmps13
  generalize hA : DS.arr d = A
  iterate 7 go_step
  generalize hW : World.alloc _ _ = W
  have HBW := Lib.hid (show Below w.heap.size w W by rw [← hW]; exact (Below.refl _ _).alloc (Nat.le_refl _) _)
  have HHW := Lib.hid (show Holds w.heap.size d W by rw [← hW, ← hA]; exact Holds.new d w)
  generalize hg0 : w.heap.size = g0 at *
  have HG := Lib.hid hg0
  clear hW hA hg0
  have c17 : W.cell? ⟨g0, 17, none⟩ = some (.bool false) := by rw [← HN.out]; exact HHW.out.cell 17
  have c18_W : W.cell? ⟨g0, 18, none⟩ = some (.int .i64 (nH : Int)) := by rw [← eH.out]; exact HHW.out.cell 18
  obtain ⟨ia, hia, hz0a, hz1a, hz2a⟩ := info_parts i65
  go_wp2_with (at_make; refine wpList_make_full _ rfl _ _ 65 rfl W.heap.size 104 ia _ 1 Try.underlying65 hia hz0a hz1a .i64 .i64 _ _ nH rfl rfl ?c0 ?c1 ?c2 ?c3 ?c4 ?_)
  case c0 => rfl
  case c1 => rfl
  case c2 => rw [hz2a]; omega
  case c3 => unfold maxLen; omega
  case c4 => exact Nat.le_refl _
  intro w1 hown hgrow
  have hba := Lib.hid (show Below g0 w w1 from HBW.out.grown hgrow (by have := HHW.out.lt; omega) (fun k h => by cases h))
  have hha := Lib.hid (show Holds g0 d w1 from HHW.out.below (Below.grown (Below.refl W.heap.size W) hgrow (Nat.le_refl _) (fun k h => by cases h)) HHW.out.lt)
  have HBw1 := hba
  have HHw1 := hha
  clear hown hgrow hba hha hia hz0a hz1a hz2a
  obtain ⟨hd, hhd⟩ : ∃ hd : SL, hd = ⟨some ⟨W.heap.size, 0, none⟩, nH, nH⟩ := ⟨_, rfl⟩
  rw [show (Value.slice (some ⟨W.heap.size, 0, none⟩) nH nH) = .slice hd.a hd.n hd.c by rw [hhd]]
  have HD := Lib.hid (show hd.a.isNone = d.hdNil ∧ hd.n ≤ hd.c by rw [hhd, HN.out]; exact ⟨rfl, Nat.le_refl _⟩)
  clear hhd
  have c24_w1 : w1.cell? ⟨g0, 24, none⟩ = some (.int .i64 (nC : Int)) := by rw [← eC.out]; exact HHw1.out.cell 24
  obtain ⟨ib, hib, hz0b, hz1b, hz2b⟩ := info_parts i66
  go_wp2_with (at_make; refine wpList_make_full _ rfl _ _ 66 rfl w1.heap.size 106 ib _ 3 Try.underlying66 hib hz0b hz1b .i64 .i64 _ _ nC rfl rfl ?c0 ?c1 ?c2 ?c3 ?c4 ?_)
  case c0 => rfl
  case c1 => rfl
  case c2 => rw [hz2b]; omega
  case c3 => unfold maxLen; omega
  case c4 => exact Nat.le_refl _
  intro w2 hown hgrow
  have hbb := Lib.hid (show Below g0 w w2 from HBw1.out.grown hgrow (by have := HHw1.out.lt; omega) (fun k h => by cases h))
  have hhb := Lib.hid (show Holds g0 d w2 from HHw1.out.below (Below.grown (Below.refl w1.heap.size w1) hgrow (Nat.le_refl _) (fun k h => by cases h)) HHw1.out.lt)
  have HBw2 := hbb
  have HHw2 := hhb
  clear hown hgrow hbb hhb hib hz0b hz1b hz2b
  have c25_w2 : w2.cell? ⟨g0, 25, none⟩ = some (.int .i64 (nL : Int)) := by rw [← eL.out]; exact HHw2.out.cell 25
  obtain ⟨ic, hic, hz0c, hz1c, hz2c⟩ := info_parts i67
  go_wp2_with (at_make; refine wpList_make_full _ rfl _ _ 67 rfl w2.heap.size 57 ic _ 5 Try.underlying67 hic hz0c hz1c .i64 .i64 _ _ nL rfl rfl ?c0 ?c1 ?c2 ?c3 ?c4 ?_)
  case c0 => rfl
  case c1 => rfl
  case c2 => rw [hz2c]; omega
  case c3 => unfold maxLen; omega
  case c4 => exact Nat.le_refl _
  intro w3 hown hgrow
  have hbc := Lib.hid (show Below g0 w w3 from HBw2.out.grown hgrow (by have := HHw2.out.lt; omega) (fun k h => by cases h))
  have hhc := Lib.hid (show Holds g0 d w3 from HHw2.out.below (Below.grown (Below.refl w2.heap.size w2) hgrow (Nat.le_refl _) (fun k h => by cases h)) HHw2.out.lt)
  have HBw3 := hbc
  have HHw3 := hhc
  clear hown hgrow hbc hhc hic hz0c hz1c hz2c
  have c0_w3 : w3.cell? ⟨g0, 0, none⟩ = some (.int .u32 d.tok) := HHw3.out.cell 0
  have c1_w3 : w3.cell? ⟨g0, 1, none⟩ = some (.string d.val) := HHw3.out.cell 1
  have c2_w3 : w3.cell? ⟨g0, 2, none⟩ = some (.int .i64 d.eql) := HHw3.out.cell 2
  have c3_w3 : w3.cell? ⟨g0, 3, none⟩ = some (.slice d.bs.a d.bs.n d.bs.c) := HHw3.out.cell 3
  have c4_w3 : w3.cell? ⟨g0, 4, none⟩ = some (.int .u64 d.bsp) := HHw3.out.cell 4
  have c5_w3 : w3.cell? ⟨g0, 5, none⟩ = some (.int .i64 d.offs) := HHw3.out.cell 5
  have c6_w3 : w3.cell? ⟨g0, 6, none⟩ = some (.int .i64 d.line) := HHw3.out.cell 6
  have c7_w3 : w3.cell? ⟨g0, 7, none⟩ = some (.int .i64 d.col) := HHw3.out.cell 7
  have c8_w3 : w3.cell? ⟨g0, 8, none⟩ = some (.int .i32 d.r) := HHw3.out.cell 8
  have c9_w3 : w3.cell? ⟨g0, 9, none⟩ = some (.int .i64 d.wd) := HHw3.out.cell 9
  have c12_w3 : w3.cell? ⟨g0, 12, none⟩ = some (.bool d.readEOF) := HHw3.out.cell 12
  have c13_w3 : w3.cell? ⟨g0, 13, none⟩ = some (.int .u32 d.quote) := HHw3.out.cell 13
  have c14_w3 : w3.cell? ⟨g0, 14, none⟩ = some (.bool d.forbid) := HHw3.out.cell 14
  have c15_w3 : w3.cell? ⟨g0, 15, none⟩ = some (.int .i64 d.openN) := HHw3.out.cell 15
  have c16_w3 : w3.cell? ⟨g0, 16, none⟩ = some (.int .i64 d.recov) := HHw3.out.cell 16
  have c18_w3 : w3.cell? ⟨g0, 18, none⟩ = some (.int .i64 (nH : Int)) := by rw [← eH.out]; exact HHw3.out.cell 18
  have c19_w3 : w3.cell? ⟨g0, 19, none⟩ = some (.int .i64 d.buried) := HHw3.out.cell 19
  have c20_w3 : w3.cell? ⟨g0, 20, none⟩ = some (.slice d.hs.a d.hs.n d.hs.c) := HHw3.out.cell 20
  have c21_w3 : w3.cell? ⟨g0, 21, none⟩ = some (.bool d.parsing) := HHw3.out.cell 21
  have c22_w3 : w3.cell? ⟨g0, 22, none⟩ = some (.int .i64 d.oB) := HHw3.out.cell 22
  have c23_w3 : w3.cell? ⟨g0, 23, none⟩ = some (.int .i64 d.oBD) := HHw3.out.cell 23
  have c24_w3 : w3.cell? ⟨g0, 24, none⟩ = some (.int .i64 (nC : Int)) := by rw [← eC.out]; exact HHw3.out.cell 24
  have c25_w3 : w3.cell? ⟨g0, 25, none⟩ = some (.int .i64 (nL : Int)) := by rw [← eL.out]; exact HHw3.out.cell 25
  have c26_w3 : w3.cell? ⟨g0, 26, none⟩ = some (.int .i64 (nW : Int)) := by rw [← eW.out]; exact HHw3.out.cell 26
  have c27_w3 : w3.cell? ⟨g0, 27, none⟩ = some (.slice d.lit.a d.lit.n d.lit.c) := HHw3.out.cell 27
  have c28_w3 : w3.cell? ⟨g0, 28, none⟩ = some (.bool d.spaced) := HHw3.out.cell 28
  have c29_w3 : w3.cell? ⟨g0, 29, none⟩ = some (.int .i64 d.lastB) := HHw3.out.cell 29
  have c30_w3 : w3.cell? ⟨g0, 30, none⟩ = some (.int .i64 d.rxO) := HHw3.out.cell 30
  have c31_w3 : w3.cell? ⟨g0, 31, none⟩ = some (.bool d.rxF) := HHw3.out.cell 31
  go_wp2_with fail
  refine (dirty_any d hd ⟨_, _, _⟩ ⟨_, _, _⟩ kc la rm st nW w3 mW).mono ?_
  rintro e w4 ⟨g, rfl, hr4, hg4, hb4⟩
  have z4 : g0 < g := Nat.lt_of_lt_of_le HHw3.out.lt hg4
  have HH4 := Lib.hid (HHw3.out.below hb4 HHw3.out.lt)
  have HB4 := Lib.hid (HBw3.out.trans (hb4.mono (Nat.le_of_lt HHw3.out.lt)))
  have HR4 := Lib.hid hr4
  clear hr4 hb4 c0_w3 c1_w3 c2_w3 c3_w3 c4_w3 c5_w3 c6_w3 c7_w3 c8_w3 c9_w3 c12_w3 c13_w3 c14_w3 c15_w3 c16_w3 c18_w3 c19_w3 c20_w3 c21_w3 c22_w3 c23_w3 c24_w3 c25_w3 c26_w3 c27_w3 c28_w3 c29_w3 c30_w3 c31_w3
  cases herrSet : d.errSet
  · have c10_4 : w4.cell? ⟨g0, 10, none⟩ = some (.bool false) := by rw [← herrSet]; exact HH4.out.cell 10
    cases hreadErrSet : d.readErrSet
    · have c11_4 : w4.cell? ⟨g0, 11, none⟩ = some (.bool false) := by rw [← hreadErrSet]; exact HH4.out.cell 11
      go_wp2_with fail
      go_ret
      exact ⟨g, hd, rfl, HR4.out, HD.out.1, HD.out.2, by have := HG.out; omega, by have h := HB4.out; rw [← HG.out] at h; exact h⟩
    · have c11_4 : w4.cell? ⟨g0, 11, none⟩ = some (.bool true) := by rw [← hreadErrSet]; exact HH4.out.cell 11
      go_wp2_with fail
      refine (setReadErr_any HR4.out).mono ?_
      rintro e w5 ⟨rfl, hr5, hb5⟩
      have HH5 := Lib.hid (HH4.out.below hb5 z4)
      have HB5 := Lib.hid (HB4.out.trans (hb5.mono (Nat.le_of_lt z4)))
      have HR5 := Lib.hid hr5
      clear hr5 hb5
      go_wp2_with fail
      go_ret
      exact ⟨g, hd, rfl, HR5.out, HD.out.1, HD.out.2, by have := HG.out; omega, by have h := HB5.out; rw [← HG.out] at h; exact h⟩
  · have c10_4 : w4.cell? ⟨g0, 10, none⟩ = some (.bool true) := by rw [← herrSet]; exact HH4.out.cell 10
    go_wp2_with fail
    refine (setErr_any HR4.out).mono ?_
    rintro e w5 ⟨rfl, hr5, hb5⟩
    have HH5 := Lib.hid (HH4.out.below hb5 z4)
    have HB5 := Lib.hid (HB4.out.trans (hb5.mono (Nat.le_of_lt z4)))
    have HR5 := Lib.hid hr5
    clear hr5 hb5
    cases hreadErrSet : d.readErrSet
    · have c11_5 : w5.cell? ⟨g0, 11, none⟩ = some (.bool false) := by rw [← hreadErrSet]; exact HH5.out.cell 11
      go_wp2_with fail
      go_ret
      exact ⟨g, hd, rfl, HR5.out, HD.out.1, HD.out.2, by have := HG.out; omega, by have h := HB5.out; rw [← HG.out] at h; exact h⟩
    · have c11_5 : w5.cell? ⟨g0, 11, none⟩ = some (.bool true) := by rw [← hreadErrSet]; exact HH5.out.cell 11
      go_wp2_with fail
      refine (setReadErr_any HR5.out).mono ?_
      rintro e w6 ⟨rfl, hr6, hb6⟩
      have HH6 := Lib.hid (HH5.out.below hb6 z4)
      have HB6 := Lib.hid (HB5.out.trans (hb6.mono (Nat.le_of_lt z4)))
      have HR6 := Lib.hid hr6
      clear hr6 hb6
      go_wp2_with fail
      go_ret
      exact ⟨g, hd, rfl, HR6.out, HD.out.1, HD.out.2, by have := HG.out; omega, by have h := HB6.out; rw [← HG.out] at h; exact h⟩
theorem build_any (d : DS) (kc : Bool) (la rm : Int) (st : SL) (w : World) (hsm : Small d) :
    Calls Try.prog 13 #[.agg d.arr, .bool kc, .int .i64 la, .int .i64 rm, .slice st.a st.n st.c] w (Bd d kc la rm st w) := by
  cases h : d.hdNil
  · exact build_row d kc la rm st w hsm h
  · exact build_nil d kc la rm st w hsm h
end Go.Proofs.Ytbfnkblcagoemaa.dirty
