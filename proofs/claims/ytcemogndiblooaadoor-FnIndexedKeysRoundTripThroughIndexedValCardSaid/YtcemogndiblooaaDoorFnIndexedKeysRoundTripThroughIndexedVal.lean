/-
  For every list of strings and every list of ints, FnIndexedKeysRoundTripThroughIndexedVal returns true. The table internal/strconv.uint64pow10 starts as the program's text lays it (the card ties it).
  The frame round the walk was written by a printer (mkframe.py), after the kit's own shells.
-/
import Derived.Test.YtcemogndiblooaaDoorRows
import Derived.WalkKit
import Derived.ProofKit
import Derived.OpenShut
import Derived.SliceStrings
import Derived.Test.YtcemogndiblooaaDoorVal
import Derived.Lib.LaidU8
import Derived.Test.YtcemogndiblooaaDoorTie
import Derived.Test.YtcemogndiblooaaDoorCards
import Derived.LaidMore
import Derived.Lay
import Derived.SevenTiedAt
import Derived.Stop.Joined
import Derived.ShutString
import Derived.ChangeOld
import Derived.Below
namespace Go.Proofs.YtcemogndiblooaaDoor.fnIndexedKeysRoundTripThroughIndexedVal
open Go.ChangeShapes Go.WideShapes Go.ChangeAt Go.RowKit
open Go.ChangeMaps (open_string shut_string)
set_option linter.unusedVariables false
open Go.Proofs.YtcemogndiblooaaDoor.own Go.Proofs.YtcemogndiblooaaDoor.vars Go.Proofs.YtcemogndiblooaaDoor.parse Go.Proofs.YtcemogndiblooaaDoor.keys

theorem own : ownKnob Tryd.prog.godebug = none := by kernel_rfl
theorem laidOut : laidOutB Tryd.prog = true := by kernel_rfl

-- Strs IsRow: of the text Vars
theorem pow_is : (Rows.laid_internal_strconv_uint64pow10 : DataW Unit) = Lib.tabData .u64 Lib.pow10Tab := by kernel_rfl
theorem tab_of {W : World} (h : laidMet Tryd.prog Rows.fnIndexedKeysRoundTripThroughIndexedValRow.laid W) : Lib.TabIs Tryd.prog W "internal/strconv.uint64pow10" .u64 Lib.pow10Tab ∧ 0 < W.heap.size := by
  have h3 := Lib.laidMet.reads h (n := "internal/strconv.uint64pow10") (d := Lib.tabData .u64 Lib.pow10Tab) (by rw [← pow_is]; exact List.mem_cons_of_mem _ (List.mem_cons_of_mem _ (List.mem_cons_self ..)))
  obtain ⟨g', t', cs, fuel, p, hg', ht', hvar, hd⟩ := h3
  have hg : Tryd.prog.globalNamed "internal/strconv.uint64pow10" = some 0 := by kernel_rfl
  have hty : (Tryd.prog.globals[0]?).map (·.type) = some 56 := by kernel_rfl
  obtain rfl := Option.some.inj (hg.symm.trans hg')
  obtain rfl := Option.some.inj (hty.symm.trans ht')
  have hT : Lib.TabIs Tryd.prog W "internal/strconv.uint64pow10" .u64 Lib.pow10Tab := by
    unfold Lib.TabIs
    rw [hvar, ← Lib.cells_of_tab Tryd.underlying56 Tryd.underlying48 (by kernel_rfl) (by kernel_rfl) hd]
  exact ⟨hT, World.block_lt_of_cell? W ⟨0, 0, none⟩ (hT.cell hg 0 (by decide))⟩
set_option maxRecDepth 100000 in
set_option maxHeartbeats 8000000 in
theorem walk (a0 : Option Addr) (len0 cap0 : Nat) (z0 : List ByteArray) (a1 : Option Addr) (len1 cap1 : Nat) (z1 : List Int) (w : World) (w0 : IsStrs w a0 len0 cap0 z0) (w1 : IsRow .i64 w a1 len1 cap1 z1) (hlaid : Lib.TabIs Tryd.prog w "internal/strconv.uint64pow10" .u64 Lib.pow10Tab ∧ 0 < w.heap.size) :
    Calls Tryd.prog 3 #[.slice a0 len0 cap0, .slice a1 len1 cap1] w fun e w' => e = .returned (.bool true) ∧ Below w.heap.size w w' := by
  obtain ⟨ht, hg0⟩ := hlaid
  have HT := Lib.hid ht
  obtain ⟨s0, s1, s2⟩ := w0.sr
  obtain ⟨i0, i1, i2⟩ := IsRow.ir w1
  have HBD := Lib.hid (IsRow.bd w1)
  have HS := Lib.hid s0
  have HI := Lib.hid i0
  have HS2 := Lib.hid s2
  have HI2 := Lib.hid i2
  clear s0 i0 s2 i2 w0 w1 ht
  obtain ⟨f, hf⟩ : ∃ f : Nat → ByteArray, f = fun i => z0.getD i ByteArray.empty := ⟨_, rfl⟩
  obtain ⟨g, hg⟩ : ∃ g : Nat → Int, g = fun i => z1.getD i 0 := ⟨_, rfl⟩
  rw [← hf] at HS
  rw [← hg] at HI
  have HBD' := Lib.hid (show ∀ i, i < len1 → -9223372036854775808 ≤ g i ∧ g i ≤ 9223372036854775807 by rw [hg]; exact HBD.out)
  clear hf hg HBD
  go_enter Tryd.func3, Tryd.ntmps3
  go_wp2_with fail
  with_reducible refine (zz4 a0 len0 cap0 a1 len1 cap1 f w i1 s1 HS.out).mono ?_
  rintro e w' ⟨b, hb, rfl, rfl⟩
  cases b with
  | false =>
    clear hb
    go_wp2
    go_ret
    exact ⟨rfl, Below.refl _ _⟩
  | true =>
  have HZ := Lib.hid (hb rfl)
  clear hb
  go_wp2_with fail
  with_reducible refine (strsB a0 len0 cap0 f w s1 HZ.out HS.out).mono ?_
  rintro e w' ⟨t, ⟨ht0, ht1, ht2⟩, rfl, rfl⟩
  go_wp2_with fail
  with_reducible refine (intsB a1 len1 cap1 w i1).mono ?_
  rintro e w' ⟨u, ⟨hu0, hu1, hu2⟩, rfl, rfl⟩
  by_cases hsum : t + u ≤ 1048576
  rotate_left
  · go_wp2
    go_ret
    exact ⟨rfl, Below.refl _ _⟩
  have hn0 : len0 ≤ 131072 := ht2 (by omega)
  have hn1 : len1 ≤ 131072 := hu2 (by omega)
  clear ht2 hu2 HZ
  cases a1 with
  | none =>
    obtain ⟨rfl, rfl⟩ := HI2.out rfl
    have hq := fun w => run_neq_slice_nil_any (P := Tryd.prog) w 23 3 none 0 0 0 0 Tryd.underlying23
    go_wp2_with fail
    with_reducible refine (cloneS_all a0 len0 cap0 f w hn0 HS2.out HS.out).mono ?_
    rintro e w1 ⟨la, lc, rfl, hs1, hb1⟩
    have HS1 := Lib.hid hs1
    have HB1 := Lib.hid hb1
    clear hs1 hb1
    go_wp2_with fail
    with_reducible refine (cloneI_nil w1).mono ?_
    rintro e w' ⟨rfl, rfl⟩
    go_wp2_with fail
    have hbv : Below w1.heap.size w1 (w1.alloc (.cells #[.bool true, .bool false, .bool false, .bool false, .int .u8 3, .string ⟨#[]⟩, .slice la len0 lc, .map none, .slice none 0 0] 33)) := (Below.refl _ _).alloc (Nat.le_refl _) _
    have hv : VarAt (w1.alloc (.cells #[.bool true, .bool false, .bool false, .bool false, .int .u8 3, .string ⟨#[]⟩, .slice la len0 lc, .map none, .slice none 0 0] 33)) w1.heap.size (.slice la len0 lc) (.slice none 0 0) := ⟨by simp, by simp, by simp, by simp, by simp, by simp, by simp, by simp, by simp⟩
    have HV := Lib.hid hv
    have HBV := Lib.hid hbv
    clear hv hbv
    have hpos : 0 < w1.heap.size := Nat.lt_of_lt_of_le hg0 HB1.out.size
    with_reducible refine (keysD la len0 lc _ hn0 (by simp) (tab_below HBV.out hpos (tab_below HB1.out hg0 HT.out))).mono ?_
    rintro e w4 ⟨kb, rfl, hkc, hkb⟩
    have HKC := Lib.hid hkc
    have HV4 := Lib.hid (HV.out.keep hkb)
    have HS4 := Lib.hid ((HS1.out.keep HBV.out).keep hkb)
    have HB4 := Lib.hid (HB1.out.trans ((HBV.out.trans (hkb.mono (by simp))).mono HB1.out.size))
    clear hkc hkb HV HS1 HBV HB1 hpos HT HS HI HS2 HI2
    go_wp2
    go_loopw [7] (fun i wr => ∃ j : Nat, j ≤ len0 ∧ i = .int .i64 j ∧ Below w4.heap.size w4 wr) (fun i _ => len0 - (intOf i).toNat)
    case atStart => exact ⟨0, by omega, rfl, Below.refl _ _⟩
    case round =>
      obtain ⟨j, hj, rfl, hr⟩ := hrel
      have H := Lib.hid hr
      clear hr
      by_cases hlt : j < len0
      · have c1 : wr.cell? ⟨kb, j, none⟩ = some (.string ⟨(Lib.itoa (j : Int)).toArray⟩) := cb H.out (cell_lt (HKC.out j hlt)) (HKC.out j hlt)
        have VA := Lib.hid (HV4.out.keep H.out)
        have SA := Lib.hid (HS4.out.keep H.out)
        go_wp2_with fail
        with_reducible refine (parse_itoa (j : Int) _ (by omega) (by omega)).mono ?_
        rintro e w' ⟨rfl, rfl⟩
        obtain ⟨v0, v1, v2, v3, v4, v5, v6, v7, v8⟩ := VA.out
        rcases SA.out with h0 | ⟨lb, rfl, hl⟩
        · omega
        have c2 := hl j hlt
        clear hl
        go_wp2_with fail
        with_reducible refine (valD lb len0 lc j (f j) _ hn0 hlt c2).mono ?_
        rintro e w6 ⟨rfl, hb6⟩
        have c6 := cb hb6 (cell_lt c2) c2
        have H6 := Lib.hid (H.out.trans (hb6.mono H.out.size))
        clear hb6 c2 c1 v0 v1 v2 v3 v4 v5 v6 v7 v8
        go_wp2
        go_roundw
        case rel => exact ⟨j + 1, by omega, by go_num, H6.out⟩
        case measure => simp [intOf]; omega
      · obtain rfl : j = len0 := by omega
        go_wp2
        go_ret
        exact ⟨rfl, HB4.out.trans (H.out.mono HB4.out.size)⟩
  | some x =>
    have hq := fun w => run_neq_slice_nil_any (P := Tryd.prog) w 23 3 (some x) len1 cap1 0 0 Tryd.underlying23
    by_cases hlen : len1 = len0
    rotate_left
    · have t0 : ((len1 : Int) != (len0 : Int)) = true := by simp; omega
      go_wp2
      go_ret
      exact ⟨rfl, Below.refl _ _⟩
    subst hlen
    have t0 : ((len1 : Int) != (len1 : Int)) = false := by simp
    go_wp2_with fail
    with_reducible refine (incr_any (some x) len1 cap1 g w hn1 HI.out).mono ?_
    rintro e w0 ⟨bi, hinc, rfl, hsame⟩
    have hbs := hsame.below w.heap.size
    have hsz : w0.heap.size = w.heap.size := by rw [hsame.heap]
    have HB0 := Lib.hid hbs
    cases bi with
    | false =>
      clear hinc hsame hbs hsz
      go_wp2
      go_ret
      exact ⟨rfl, HB0.out⟩
    | true =>
    have HM := Lib.hid (hinc rfl)
    have HS0 := Lib.hid (show SR w0 a0 len1 f by
      rcases HS.out with h | ⟨b, off, hx, hc⟩
      · exact .inl h
      · exact .inr ⟨b, off, hx, fun i hi => ⟨hsame.cell (hc i hi).1, (hc i hi).2⟩⟩)
    have HI0 := Lib.hid (HI.out.keep hbs)
    have hg00 : 0 < w0.heap.size := by rw [hsz]; exact hg0
    have HSZ := Lib.hid hsz
    have HT0 := Lib.hid (tab_below hbs hg0 HT.out)
    clear hinc hsame hbs hsz HT HI HS
    go_wp2_with fail
    with_reducible refine (cloneS_all a0 len1 cap0 f w0 hn0 HS2.out HS0.out).mono ?_
    rintro e w1 ⟨la, lc, rfl, hs1, hb1⟩
    have HS1 := Lib.hid hs1
    have HB1 := Lib.hid hb1
    have HI1 := Lib.hid (HI0.out.keep hb1)
    clear hs1 hb1 HI0
    go_wp2_with fail
    with_reducible refine (cloneI_all x len1 cap1 g w1 hn0 HI1.out).mono ?_
    rintro e w2 ⟨ib, rfl, hi2, hb2⟩
    have HX2 := Lib.hid hi2
    have HB2 := Lib.hid (HB1.out.trans (hb2.mono HB1.out.size))
    have HS2' := Lib.hid (HS1.out.keep hb2)
    clear hi2 hb2 HI1 hq
    have hq := fun w => run_neq_slice_nil_any (P := Tryd.prog) w 23 3 (some ⟨ib, 0, none⟩) len1 len1 0 0 Tryd.underlying23
    go_wp2_with fail
    have hbv : Below w2.heap.size w2 (w2.alloc (.cells #[.bool true, .bool false, .bool false, .bool false, .int .u8 3, .string ⟨#[]⟩, .slice la len1 lc, .map none, .slice (some ⟨ib, 0, none⟩) len1 len1] 33)) := (Below.refl _ _).alloc (Nat.le_refl _) _
    have hv : VarAt (w2.alloc (.cells #[.bool true, .bool false, .bool false, .bool false, .int .u8 3, .string ⟨#[]⟩, .slice la len1 lc, .map none, .slice (some ⟨ib, 0, none⟩) len1 len1] 33)) w2.heap.size (.slice la len1 lc) (.slice (some ⟨ib, 0, none⟩) len1 len1) := ⟨by simp, by simp, by simp, by simp, by simp, by simp, by simp, by simp, by simp⟩
    have HV := Lib.hid hv
    have HBV := Lib.hid hbv
    clear hv hbv
    have hpos : 0 < w2.heap.size := Nat.lt_of_lt_of_le hg00 HB2.out.size
    with_reducible refine (keysS la len1 lc ib 0 len1 g _ hn0 (fun i hi => ⟨cb HBV.out (cell_lt (HX2.out i hi)) (HX2.out i hi), HBD'.out i hi⟩) (by simp) (tab_below HBV.out hpos (tab_below HB2.out hg00 HT0.out))).mono ?_
    rintro e w4 ⟨kb, rfl, hkc, hkb⟩
    have HKC := Lib.hid hkc
    have HV4 := Lib.hid (HV.out.keep hkb)
    have HS4 := Lib.hid ((HS2'.out.keep HBV.out).keep hkb)
    have HX4 := Lib.hid (show ∀ i, i < len1 → w4.cell? ⟨ib, 0 + i, none⟩ = some (.int .i64 (g i)) from fun i hi =>
      have c := cb HBV.out (cell_lt (HX2.out i hi)) (HX2.out i hi)
      cb hkb (cell_lt c) c)
    have HB4' := Lib.hid (HB2.out.trans ((HBV.out.trans (hkb.mono (by simp))).mono HB2.out.size))
    have HB4 := Lib.hid (HB0.out.trans (HB4'.out.mono (Nat.le_of_eq HSZ.out.symm)))
    clear hkc hkb HV HS1 HBV HB1 hpos HT0 HS0 HS2 HI2 HB2 HX2 HS2' HB4' HB0 HSZ hg00
    go_wp2
    go_loopw [7] (fun i wr => ∃ j : Nat, j ≤ len1 ∧ i = .int .i64 j ∧ Below w4.heap.size w4 wr) (fun i _ => len1 - (intOf i).toNat)
    case atStart => exact ⟨0, by omega, rfl, Below.refl _ _⟩
    case round =>
      obtain ⟨j, hj, rfl, hr⟩ := hrel
      have H := Lib.hid hr
      clear hr
      by_cases hlt : j < len1
      · obtain ⟨y, hy⟩ : ∃ y, y = g j := ⟨_, rfl⟩
        have c1 : wr.cell? ⟨kb, j, none⟩ = some (.string ⟨(Lib.itoa y).toArray⟩) := by rw [hy]; exact cb H.out (cell_lt (HKC.out j hlt)) (HKC.out j hlt)
        have x1 : wr.cell? ⟨ib, j, none⟩ = some (.int .i64 y) := by rw [hy]; have := cb H.out (cell_lt (HX4.out j hlt)) (HX4.out j hlt); rwa [Nat.zero_add] at this
        obtain ⟨y0, y1⟩ := HBD'.out j hlt
        rw [← hy] at y0 y1
        have HY := Lib.hid hy
        clear hy
        have VA := Lib.hid (HV4.out.keep H.out)
        have SA := Lib.hid (HS4.out.keep H.out)
        go_wp2_with fail
        with_reducible refine (parse_itoa y _ y0 y1).mono ?_
        rintro e w' ⟨rfl, rfl⟩
        obtain ⟨v0, v1, v2, v3, v4, v5, v6, v7, v8⟩ := VA.out
        rcases SA.out with h0 | ⟨lb, rfl, hl⟩
        · omega
        have c2 := hl j hlt
        clear hl
        go_wp2_with fail
        have hval := valS lb len1 lc ib 0 len1 j g (f j) wr hn0 hlt c2 (fun i hi => cb H.out (cell_lt (HX4.out i hi)) (HX4.out i hi)) HM.out
        rw [← HY.out] at hval
        with_reducible refine hval.mono ?_
        clear hval
        rintro e w6 ⟨rfl, hb6⟩
        have c6 := cb hb6 (cell_lt c2) c2
        have H6 := Lib.hid (H.out.trans (hb6.mono H.out.size))
        clear hb6 c2 c1 x1 v0 v1 v2 v3 v4 v5 v6 v7 v8
        go_wp2
        go_roundw
        case rel => exact ⟨j + 1, by omega, by go_num, H6.out⟩
        case measure => simp [intOf]; omega
      · obtain rfl : j = len1 := by omega
        go_wp2
        go_ret
        exact ⟨rfl, HB4.out.trans (H.out.mono HB4.out.size)⟩

/-! ### The row's step (frame) -/
set_option maxRecDepth 100000 in
theorem lifted (os : Os) (started : os.Started) (H : Type) (enc : TypeId × Value → H) :
    ReturnsInHanded {} Tryd.checked os 3 .any (fun w args => (Rows.fnIndexedKeysRoundTripThroughIndexedValSpec.pre enc Tryd.prog Tryd.f3 Rows.fnIndexedKeysRoundTripThroughIndexedValRow.domain false w args ∧ laidMetH Tryd.prog Rows.fnIndexedKeysRoundTripThroughIndexedValRow.laid w) ∧ sizedMet enc Tryd.prog Tryd.f3 (OpenSpec.ofChange Rows.fnIndexedKeysRoundTripThroughIndexedValSpec) false w args) (Rows.fnIndexedKeysRoundTripThroughIndexedValSpec.post enc Tryd.prog Tryd.f3 false true false false) := by
  refine returnsInHanded_of_change_and (C := Tryd.checked) (X := fun w _ => laidMetH Tryd.prog Rows.fnIndexedKeysRoundTripThroughIndexedValRow.laid w) (fun _ _ _ hh h => h.of_heap hh) own started (by kernel_rfl) Tryd.func3
    (ChangeSpec.witness_shaped (enc := enc) (C := Tryd.checked) (os := os) (X := fun w _ => laidMetH Tryd.prog Rows.fnIndexedKeysRoundTripThroughIndexedValRow.laid w) false (World.laidAll Tryd.prog os Rows.fnIndexedKeysRoundTripThroughIndexedValRow.laid) #[.slice none 0 0, .slice none 0 0] 8 (World.laidAll_os _ _ _)
      (World.shaped_of_ZipB (by kernel_rfl) (by kernel_rfl)) (by kernel_rfl) (by kernel_rfl) (by kernel_rfl)
      (by rw [MakeChecks.laidMetH_plain _ _ _ (by kernel_rfl)]; exact laidMet_laidAll _ (by kernel_rfl) (by kernel_rfl))) ?_
  intro W base args ds gs before hval0 hW hcnd _ hL _
  have hval : ∀ (j : Nat) t v, Tryd.f3.params[j]? = some t → args[j]? = some v → Value.okWide Tryd.prog W .any base t v := hval0
  have hW' := hW
  obtain ⟨p, q, hA0, hV, rfl, hfz, hnd⟩ := hW
  have hA : DataW.TrodAll enc Tryd.prog W 0 (fun _ => true) true Tryd.f3.params.toList args.toList ds p := hA0
  rw [Tryd.params3] at hA hval
  obtain ⟨v0, vs0, d0, ds0, p0, q0, hargs, rfl, rfl, h0, r0⟩ := trodAll_cons hA
  obtain ⟨v1, vs1, d1, ds1, p1, q1, rfl, rfl, rfl, h1, r1⟩ := trodAll_cons r0
  obtain ⟨rfl, rfl, rfl⟩ := trodAll_nil r1
  obtain rfl : args = #[v0, v1] := by cases args; simp_all
  obtain ⟨rfl, rfl⟩ := trodVars_none hV
  obtain ⟨a0, len0, cap0, rfl⟩ := okWide_slice Tryd.underlying22 (hval 0 22 v0 rfl rfl)
  have k0 := h0
  have lt0 : ∀ x ∈ p0, x.block < W.heap.size := by obtain ⟨m, hm⟩ := k0; exact DataW.trod_lt m _ _ _ hm
  obtain ⟨z0, w0⟩ : ∃ zs, IsStrs W a0 len0 cap0 zs := by
    obtain ⟨fuel, hf⟩ := h0
    rcases open_strings Tryd.underlying22 Tryd.underlying9 (by kernel_rfl) hf with ⟨hcs, _⟩ | ⟨x, l, c, zs, hcs, _, hl, hm, hz, _, hcell, hwz⟩
    · simp [Value.cells] at hcs
      obtain ⟨rfl, rfl, rfl⟩ := hcs
      exact ⟨[], .inl ⟨rfl, rfl, rfl, rfl⟩⟩
    · simp [Value.cells] at hcs
      obtain ⟨rfl, rfl, rfl⟩ := hcs
      exact ⟨zs, .inr ⟨_, rfl, hl, hm, by simpa using hz, hcell, hwz⟩⟩
  obtain ⟨a1, len1, cap1, rfl⟩ := okWide_slice Tryd.underlying23 (hval 1 23 v1 rfl rfl)
  have k1 := h1
  have lt1 : ∀ x ∈ p1, x.block < W.heap.size := by obtain ⟨m, hm⟩ := k1; exact DataW.trod_lt m _ _ _ hm
  obtain ⟨z1, w1⟩ : ∃ zs, IsRow .i64 W a1 len1 cap1 zs := by
    obtain ⟨fuel, hf⟩ := h1
    rcases open_ints Tryd.underlying23 Tryd.underlying3 (by kernel_rfl) hf with ⟨hcs, _⟩ | ⟨x, l, c, zs, hcs, _, hl, hm, hz, _, hcell, hwz⟩
    · simp [Value.cells] at hcs
      obtain ⟨rfl, rfl, rfl⟩ := hcs
      exact ⟨[], .inl ⟨rfl, rfl, rfl, rfl⟩⟩
    · simp [Value.cells] at hcs
      obtain ⟨rfl, rfl, rfl⟩ := hcs
      exact ⟨zs, .inr ⟨_, rfl, hl, hm, by simpa using hz, hcell, hwz⟩⟩
  clear hA0 hval0
  refine (walk a0 len0 cap0 z0 a1 len1 cap1 z1 W w0 w1 (tab_of (by rw [MakeChecks.laidMetH_plain _ _ _ (by kernel_rfl)] at hL; exact hL))).mono fun e W' ⟨he, bel⟩ => ?_
  subst he
  exact ⟨_, rfl, _, _, _, [], _, [], hW', trodAll_mk1 (shut_bool Tryd.underlying4 _), (trodAll_cons_mk (Below.trod laidOut (by kernel_rfl) (of_decide_eq_true (by kernel_rfl)) k0 bel lt0) (trodAll_cons_mk (Below.trod laidOut (by kernel_rfl) (of_decide_eq_true (by kernel_rfl)) k1 bel lt1) trodAll_mk0)), rfl, bel.frame _, fun h => by cases h⟩

theorem over : Rows.fnIndexedKeysRoundTripThroughIndexedValRow.holds Tryd.pinned (OpenSpec.ofChange Rows.fnIndexedKeysRoundTripThroughIndexedValSpec) :=
  OpenClaim.holds_of_wide 3 Tryd.f3 rfl rfl rfl rfl rfl rfl rfl ⟨rfl, rfl, rfl, rfl, rfl⟩ rfl rfl rfl rfl rfl (by kernel_rfl) Tryd.func3 (by kernel_rfl)
    (of_decide_eq_true (by kernel_rfl)) (by unfold Func.isWrapper; first | (rw [if_pos (by decide +kernel)]; kernel_rfl) | (rw [if_neg (by decide +kernel)]; exact ⟨rfl, rfl⟩))
    (fun os started H enc _ => lifted os started H enc)

/-- The statement. -/
theorem proved : Rows.FnIndexedKeysRoundTripThroughIndexedValCardSaid :=
  Claim7.holds_tied_plain_at .later [] [.data, .data, .data] true (true, "8b21772192aea5961fdd87ac1f72fac6ce89d086ef6412abfc70066ab68e27e4") false
    over (fun _ h => by cases h) (by kernel_rfl) (fun _ h => by cases h) fnIndexedKeysRoundTripThroughIndexedVal_row_tie rfl ⟨rfl, rfl⟩ (by kernel_rfl) rfl
    (fun f fn hf hfn => by
      obtain rfl : f = 3 := Option.some.inj ((show Tryd.prog.funcNamed "mvdan.cc/sh/v3/n010_40.FnIndexedKeysRoundTripThroughIndexedVal" = some 3 by kernel_rfl).symm.trans hf) |>.symm
      obtain rfl : fn = Tryd.f3 := (Option.some.inj (Tryd.func3.symm.trans hfn)).symm
      exact ⟨by kernel_rfl, fun j t ht => by
        rw [Tryd.params3] at ht
        have hm : t ∈ [22, 23] := by simpa using Array.mem_of_getElem? ht
        have hall : ([22, 23].all fun u => !Tryd.prog.wantsStandIn u) = true := by kernel_rfl
        exact (show Tryd.prog.wantsStandIn t = false by simpa using List.all_eq_true.1 hall t hm)⟩)
    (by kernel_rfl)
#print axioms proved
end Go.Proofs.YtcemogndiblooaaDoor.fnIndexedKeysRoundTripThroughIndexedVal
