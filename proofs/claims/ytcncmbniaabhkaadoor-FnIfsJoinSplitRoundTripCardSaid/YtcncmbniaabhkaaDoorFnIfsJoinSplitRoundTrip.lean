/-
  For every IFS and every list of strings, FnIfsJoinSplitRoundTrip returns true. The tables unicode/utf8.first and acceptRanges start as the program's text lays them (the card ties them).
  The frame round the walk was written by a printer (mkframe.py), after the kit's own shells.
-/
import Derived.Test.YtcncmbniaabhkaaDoorRows
import Derived.WalkKit
import Derived.ProofKit
import Derived.OpenShut
import Derived.SliceStrings
import Derived.Test.YtcncmbniaabhkaaDoorJoin
import Derived.Lib.LaidU8
import Derived.Test.YtcncmbniaabhkaaDoorTie
import Derived.Test.YtcncmbniaabhkaaDoorCards
import Derived.LaidMore
import Derived.Lay
import Derived.SevenTiedAt
import Derived.Stop.Joined
import Derived.ShutString
import Derived.ChangeOld
import Derived.Below
namespace Go.Proofs.YtcncmbniaabhkaaDoor.fnIfsJoinSplitRoundTrip
open Go.ChangeShapes Go.WideShapes Go.ChangeAt Go.RowKit
open Go.ChangeMaps (open_string shut_string)
set_option linter.unusedVariables false
open Go.Proofs.YtcncmbniaabhkaaDoor.own
open Go.Proofs.YtcncmbniaabhkaaDoor.vars
open Go.Proofs.YtcncmbniaabhkaaDoor.plain
open Go.Proofs.YtcncmbniaabhkaaDoor.cut
open Go.Proofs.YtcncmbniaabhkaaDoor.joins

theorem own : ownKnob Tryd.prog.godebug = none := by kernel_rfl
theorem laidOut : laidOutB Tryd.prog = true := by kernel_rfl

-- Strs IsRow
theorem extra : U8Extra Tryd.prog Tryd.lays260_ren := ⟨by kernel_rfl, by kernel_rfl, by kernel_rfl, by kernel_rfl, by kernel_rfl, by kernel_rfl, by kernel_rfl⟩
theorem first_is : Rows.laid_unicode_utf8_first = Lib.firstData := by kernel_rfl
theorem acc_is : Rows.laid_unicode_utf8_acceptRanges = Lib.acceptData := by kernel_rfl
theorem tabs_of {W : World} (h : laidMet Tryd.prog Rows.fnIfsJoinSplitRoundTripRow.laid W) : Lib.Utf8Tabs 0 1 W := by
  have h3 := Lib.laidMet.reads h (n := "unicode/utf8.first") (d := Lib.firstData) (by rw [← first_is]; exact List.mem_cons_of_mem _ (List.mem_cons_self ..))
  have h4 := Lib.laidMet.reads h (n := "unicode/utf8.acceptRanges") (d := Lib.acceptData) (by rw [← acc_is]; exact List.mem_cons_self ..)
  exact utf8Tabs_of_reads Tryd.lays260 extra h3 h4
set_option maxRecDepth 100000 in
set_option maxHeartbeats 4000000 in
theorem walk (a0 : ByteArray) (a1 : Option Addr) (len1 cap1 : Nat) (z1 : List ByteArray) (w : World) (w0 : a0.size ≤ maxLen) (w1 : IsStrs w a1 len1 cap1 z1) (hlaid : Lib.Utf8Tabs 0 1 w) :
    Calls Tryd.prog 3 #[.string a0, .slice a1 len1 cap1] w fun e w' => e = .returned (.bool true) ∧ Below w.heap.size w w' := by
  obtain ⟨s1, m1, z1'⟩ := w1.sr
  have S1 := Lib.hid s1
  have HT := Lib.hid hlaid
  clear s1 w1 hlaid
  go_enter Tryd.func3, Tryd.ntmps3
  go_wp2_with fail
  refine (zz4 _ w0 _ _ _ _ _ m1 S1.out).mono ?_
  rintro e w' ⟨b, hok, rfl, rfl⟩
  cases b
  · go_wp2_with fail
    go_ret
    exact ⟨rfl, Below.refl _ _⟩
  obtain ⟨l0, l1, l2⟩ := hok rfl
  have L2 := Lib.hid l2
  clear hok l2
  go_wp2_with fail
  refine (bytesOf _ _ _ _ _ l1 L2.out S1.out).mono ?_
  rintro e w' ⟨⟨r, rfl, r0, r1, r2⟩, rfl⟩
  by_cases hbig : 1048576 < (a0.size : Int) + r
  · go_wp2_with fail
    go_ret
    exact ⟨rfl, Below.refl _ _⟩
  have q1 : decide ((1048576 : Int) < (a0.size : Int) + r) = false := decide_eq_false hbig
  have R2 := Lib.hid (r2 (by omega))
  clear r2
  by_cases hn : 0 < len1
  rotate_left
  · obtain rfl : len1 = 0 := by omega
    go_wp2_with fail
    go_ret
    exact ⟨rfl, Below.refl _ _⟩
  rcases S1.out with h0 | ⟨b, off, rfl, hc⟩
  · omega
  have HC := Lib.hid (fun i hi => (hc i hi).1)
  clear hc S1
  go_wp2_with fail
  refine (cloneS_row b off len1 cap1 _ w l1 HC.out).mono ?_
  rintro e w1 ⟨rfl, ho, hb1⟩
  have K1 := Lib.hid (fun j (hj : j < len1) => show w1.cell? ⟨w.heap.size, 0 + j, none⟩ = some (.string (z1.getD j ByteArray.empty)) by rw [Nat.zero_add, ho.cellAt j (by omega)]; exact strsV_get _ _ _ hj)
  have HB1 := Lib.hid hb1
  have T1 := Lib.hid (tabs_below HT.out hb1)
  have y1 := hb1.size
  clear ho hb1 HC HT
  go_wp2_with fail
  refine (newConf _ _).mono ?_
  rintro e w2 ⟨rfl, hp2, hb2, y2⟩
  have K2 := Lib.hid (fun j (hj : j < len1) => cb hb2 (by exact cell_lt (K1.out j hj)) (K1.out j hj))
  have T2 := Lib.hid (tabs_below T1.out hb2)
  have HB2 := Lib.hid (HB1.out.trans (hb2.mono y1))
  clear hb2 K1 T1 HB1
  have h8 := join8 a0 (fun _ => ⟨#[]⟩) w1.heap.size w2.heap.size 0 2 2 (w2.alloc (.cells #[.string ⟨#[]⟩, .string ⟨#[]⟩] 9)) (tabs_below T2.out ((Below.refl _ _).alloc (Nat.le_refl _) _)) l0 (ck _ hp2) (by omega) (by omega) (by omega) (fun j hj => two_cells w2 j hj) (by rw [Sum_two]; decide)
  rw [J_two] at h8
  obtain ⟨sp, hsp⟩ : ∃ sp, sp = sepOf a0 := ⟨_, rfl⟩
  rw [← hsp] at h8
  have H8 := Lib.hid h8
  clear h8
  go_wp2_with fail
  refine H8.out.mono ?_
  rintro e w4 ⟨rfl, hb4⟩
  have hp4 : w4.cell? ⟨w1.heap.size, 25, none⟩ = some (.string a0) := cb hb4 (by have := cell_lt hp2; simp at this ⊢; omega) (ck _ hp2)
  have K4 := Lib.hid (fun j (hj : j < len1) => cb hb4 (by have := cell_lt (K2.out j hj); simp at this ⊢; omega) (ck _ (K2.out j hj)))
  have T4 := Lib.hid (tabs_below (tabs_below T2.out ((Below.refl _ _).alloc (Nat.le_refl _) _)) hb4)
  have y4 : w2.heap.size + 1 ≤ w4.heap.size := by have := hb4.size; simp at this; omega
  have HB4 := Lib.hid (HB2.out.trans (((Below.refl _ w2).alloc (Nat.le_refl _) (.cells #[.string ⟨#[]⟩, .string ⟨#[]⟩] 9) |>.trans (hb4.mono (by simp))).mono (by omega)))
  clear hb4 K2 T2 HB2 H8
  by_cases hz : a0.size = 0
  · have e1 : sp.toList.isEmpty = true := isEmpty_of sp (by rw [hsp, sep_none a0 hz]; rfl)
    have e2 : a0.toList.isEmpty = true := isEmpty_of a0 hz
    clear hsp
    go_wp2_with fail
    go_ret
    exact ⟨rfl, HB4.out⟩
  obtain ⟨d1, d2, d3, _⟩ := dec_sep a0 (by omega)
  have dz := sep_size a0 (by omega)
  have hf := sep_hf a0 (by omega)
  have hex : a0.extract 0 (Utf8.decode a0 0).2 = sepOf a0 := (if_neg hz).symm
  rw [← dz] at hex d1 d2 d3
  rw [← hsp] at hex d1 d2 d3 hf
  have HF0 := Lib.hid hf
  have HSP := Lib.hid hsp
  have e1 : sp.toList.isEmpty = false := isEmpty_not sp (by omega)
  have q2 : decide ((4 : Int) < (sp.size : Int)) = false := decide_eq_false (by omega)
  have q3 : decide (a0.size < sp.size) = false := decide_eq_false (by omega)
  clear hf hsp dz
  go_wp2_with fail
  go_loopw [7] (fun x wr => ∃ i : Nat, x = .int .i64 i ∧ i ≤ len1 ∧ Below w4.heap.size w4 wr ∧ w4.heap.size ≤ wr.heap.size ∧ Hid (∀ j, j < i → ¬ sp.data.toList <:+: (z1.getD j ByteArray.empty).data.toList)) (fun x _ => len1 - (intOf x).toNat)
  case atStart => exact ⟨0, rfl, by omega, Below.refl _ _, Nat.le_refl _, Lib.hid (fun j h => by omega)⟩
  case round =>
    obtain ⟨i, rfl, hi, hbr, hsr, HN⟩ := hrel
    have HBR := Lib.hid hbr
    clear hbr
    by_cases hlt : i < len1
    · have ci := cb HBR.out (by exact cell_lt (K4.out i hlt)) (K4.out i hlt)
      rw [Nat.zero_add] at ci
      have zi : (z1[i]?.getD ByteArray.empty).size ≤ 1048576 := by have := L2.out i hlt; simpa using this
      go_wp2_with fail
      refine (has_any _ _ (by omega) (by omega) _).mono ?_
      rintro e w' ⟨⟨b, rfl, hb⟩, rfl⟩
      cases b
      · have HN2 := Lib.hid (show ∀ j, j < i + 1 → ¬ sp.data.toList <:+: (z1.getD j ByteArray.empty).data.toList by
          intro j hj
          by_cases e : j = i
          · rw [e]; exact hb rfl
          · exact HN.out j (by omega))
        clear hb HN
        go_wp2_with fail
        go_roundw
        case rel => exact ⟨i + 1, by go_num, by omega, HBR.out, hsr, HN2⟩
        case measure => simp [intOf]; omega
      · clear hb
        go_wp2_with fail
        go_ret
        exact ⟨rfl, HB4.out.trans (HBR.out.mono (by omega))⟩
    · obtain rfl : i = len1 := by omega
      have K5 := Lib.hid (fun j (hj : j < i) => cb HBR.out (by exact cell_lt (K4.out j hj)) (K4.out j hj))
      have hp5 := cb HBR.out (by exact cell_lt hp4) hp4
      have T5 := Lib.hid (tabs_below T4.out HBR.out)
      have HB5 := Lib.hid (HB4.out.trans (HBR.out.mono (by omega)))
      have hsum : vars.Sum (fun j => z1.getD j ByteArray.empty) i ≤ 140737488355328 := by rw [← R2.out]; omega
      have H8 := Lib.hid (join8 a0 (fun j => z1.getD j ByteArray.empty) w1.heap.size w.heap.size 0 i i wr T5.out l0 hp5 hn (Nat.le_refl _) l1 K5.out hsum)
      have hjs := J_size a0 (fun j => z1.getD j ByteArray.empty) i
      rw [← R2.out] at hjs
      have hjd : (J a0 (fun j => z1.getD j ByteArray.empty) i).data.toList = Lib.join (LL (fun j => z1.getD j ByteArray.empty) i) sp.data.toList := by rw [HSP.out]; rfl
      have H10 := Lib.hid (split_any (J a0 (fun j => z1.getD j ByteArray.empty) i) sp (fun j => z1.getD j ByteArray.empty) i hn l1 (by omega) (by omega) HF0.out HN.out hjd)
      clear hsum hjd HN K4 T4 HB4 HBR hp4 hp5
      go_wp2_with fail
      refine H8.out.mono ?_
      rintro e w5 ⟨rfl, hb5⟩
      have K6 := Lib.hid (fun j (hj : j < i) => cb hb5 (by exact cell_lt (K5.out j hj)) (K5.out j hj))
      have y5 := hb5.size
      have HB6 := Lib.hid (HB5.out.trans (hb5.mono (by omega)))
      clear hb5 H8 K5 HB5 T5
      go_wp2_with fail
      refine (H10.out _).mono ?_
      rintro e w6 ⟨g, cap, rfl, ho, hb6⟩
      have K7 := Lib.hid (fun j (hj : j < i) => cb hb6 (by exact cell_lt (K6.out j hj)) (K6.out j hj))
      have P7 := Lib.hid (fun j (hj : j < i) => show w6.cell? ⟨g, j, none⟩ = some (.string (z1.getD j ByteArray.empty)) by rw [ho.cellAt j (by omega)]; exact strsV_get _ _ _ hj)
      have HB7 := Lib.hid (HB6.out.trans (hb6.mono (by omega)))
      clear hb6 H10 K6 HB6 ho
      have il : ((i : Int) != (i : Int)) = false := by simp
      go_wp2_with fail
      go_loopw [10] (fun x wr => ∃ j m : Nat, x = .int .i64 j ∧ j ≤ i ∧ wr = w6.drewN m) (fun x _ => i - (intOf x).toNat)
      case atStart => exact ⟨0, 0, rfl, by omega, rfl⟩
      case round =>
        obtain ⟨j, m, rfl, hj, rfl⟩ := hrel
        by_cases hlt2 : j < i
        · have k1 := K7.out j hlt2
          have k2 := P7.out j hlt2
          rw [Nat.zero_add] at k1
          generalize z1.getD j ByteArray.empty = y at k1 k2
          go_wp2_with fail
          go_quiet (fail)
          go_wp2_with fail
          go_roundw
          case rel => first | exact ⟨j + 1, _, by go_num, by omega, rfl⟩ | ((repeat apply Exists.intro); exact ⟨⟨by go_num, by omega, rfl⟩, rfl⟩)
          case measure => simp [intOf]; omega
        · go_wp2_with fail
          go_ret
          exact ⟨rfl, HB7.out.trans ⟨rfl, rfl, rfl, Nat.le_refl _, fun _ _ => rfl⟩⟩

/-! ### The row's step (frame) -/
set_option maxRecDepth 100000 in
theorem lifted (os : Os) (started : os.Started) (H : Type) (enc : TypeId × Value → H) :
    ReturnsInHanded {} Tryd.checked os 3 .any (fun w args => (Rows.fnIfsJoinSplitRoundTripSpec.pre enc Tryd.prog Tryd.f3 Rows.fnIfsJoinSplitRoundTripRow.domain false w args ∧ laidMetH Tryd.prog Rows.fnIfsJoinSplitRoundTripRow.laid w) ∧ sizedMet enc Tryd.prog Tryd.f3 (OpenSpec.ofChange Rows.fnIfsJoinSplitRoundTripSpec) false w args) (Rows.fnIfsJoinSplitRoundTripSpec.post enc Tryd.prog Tryd.f3 false true false false) := by
  refine returnsInHanded_of_change_and (C := Tryd.checked) (X := fun w _ => laidMetH Tryd.prog Rows.fnIfsJoinSplitRoundTripRow.laid w) (fun _ _ _ hh h => h.of_heap hh) own started (by kernel_rfl) Tryd.func3
    (ChangeSpec.witness_shaped (enc := enc) (C := Tryd.checked) (os := os) (X := fun w _ => laidMetH Tryd.prog Rows.fnIfsJoinSplitRoundTripRow.laid w) false (World.laidAll Tryd.prog os Rows.fnIfsJoinSplitRoundTripRow.laid) #[.string ByteArray.empty, .slice none 0 0] 8 (World.laidAll_os _ _ _)
      (World.shaped_of_ZipB (by kernel_rfl) (by kernel_rfl)) (by kernel_rfl) (by kernel_rfl) (by kernel_rfl)
      (by rw [MakeChecks.laidMetH_plain _ _ _ (by kernel_rfl)]; exact laidMet_laidAll _ (by kernel_rfl) (by kernel_rfl))) ?_
  intro W base args ds gs before hval0 hW hcnd _ hL _
  have hval : ∀ (j : Nat) t v, Tryd.f3.params[j]? = some t → args[j]? = some v → Value.okWide Tryd.prog W .any base t v := hval0
  have hW' := hW
  obtain ⟨p, q, hA0, hV, rfl, hfz, hnd⟩ := hW
  have hA : DataW.TrodAll enc Tryd.prog W 0 (fun _ => true) true Tryd.f3.params.toList args.toList ds p := hA0
  rw [Tryd.params3] at hA hval
  obtain ⟨v0, vs0, d0, ds0, p0, q0, hargs, rfl, rfl, h0, r0⟩ := trodAll_cons hA
  obtain ⟨v1, vs1, d1, ds1, p1, q1, rfl, rfl, rfl, h1, r1⟩ := trodAll_cons r0
  obtain ⟨rfl, rfl, rfl⟩ := trodAll_nil r1
  obtain rfl : args = #[v0, v1] := by cases args; simp_all
  obtain ⟨rfl, rfl⟩ := trodVars_none hV
  obtain ⟨a0, rfl, rfl, rfl, w0⟩ := open_string Tryd.underlying9 (hval 0 9 v0 rfl rfl) h0
  obtain ⟨a1, len1, cap1, rfl⟩ := okWide_slice Tryd.underlying22 (hval 1 22 v1 rfl rfl)
  have k1 := h1
  have lt1 : ∀ x ∈ p1, x.block < W.heap.size := by obtain ⟨m, hm⟩ := k1; exact DataW.trod_lt m _ _ _ hm
  obtain ⟨z1, w1⟩ : ∃ zs, IsStrs W a1 len1 cap1 zs := by
    obtain ⟨fuel, hf⟩ := h1
    rcases open_strings Tryd.underlying22 Tryd.underlying9 (by kernel_rfl) hf with ⟨hcs, _⟩ | ⟨x, l, c, zs, hcs, _, hl, hm, hz, _, hcell, hwz⟩
    · simp [Value.cells] at hcs
      obtain ⟨rfl, rfl, rfl⟩ := hcs
      exact ⟨[], .inl ⟨rfl, rfl, rfl, rfl⟩⟩
    · simp [Value.cells] at hcs
      obtain ⟨rfl, rfl, rfl⟩ := hcs
      exact ⟨zs, .inr ⟨_, rfl, hl, hm, by simpa using hz, hcell, hwz⟩⟩
  clear hA0 hval0
  refine (walk a0 a1 len1 cap1 z1 W w0 w1 (tabs_of (by rw [MakeChecks.laidMetH_plain _ _ _ (by kernel_rfl)] at hL; exact hL))).mono fun e W' ⟨he, bel⟩ => ?_
  subst he
  exact ⟨_, rfl, _, _, _, [], _, [], hW', trodAll_mk1 (shut_bool Tryd.underlying4 _), (trodAll_cons_mk (shut_string Tryd.underlying9 w0) (trodAll_cons_mk (Below.trod laidOut (by kernel_rfl) (of_decide_eq_true (by kernel_rfl)) k1 bel lt1) trodAll_mk0)), rfl, bel.frame _, fun h => by cases h⟩

theorem over : Rows.fnIfsJoinSplitRoundTripRow.holds Tryd.pinned (OpenSpec.ofChange Rows.fnIfsJoinSplitRoundTripSpec) :=
  OpenClaim.holds_of_wide 3 Tryd.f3 rfl rfl rfl rfl rfl rfl rfl ⟨rfl, rfl, rfl, rfl, rfl⟩ rfl rfl rfl rfl rfl (by kernel_rfl) Tryd.func3 (by kernel_rfl)
    (of_decide_eq_true (by kernel_rfl)) (by unfold Func.isWrapper; first | (rw [if_pos (by decide +kernel)]; kernel_rfl) | (rw [if_neg (by decide +kernel)]; exact ⟨rfl, rfl⟩))
    (fun os started H enc _ => lifted os started H enc)

/-- The statement. -/
theorem proved : Rows.FnIfsJoinSplitRoundTripCardSaid :=
  Claim7.holds_tied_plain_at .later [] [.data, .pinned] true (true, "f2666c3a390442b69f181ae5068e52a3f26a519eba680aca4cd16c99d298f5e5") false
    over (fun _ h => by cases h) (by kernel_rfl) (fun _ h => by cases h) fnIfsJoinSplitRoundTrip_row_tie rfl ⟨rfl, rfl⟩ (by kernel_rfl) rfl
    (fun f fn hf hfn => by
      obtain rfl : f = 3 := Option.some.inj ((show Tryd.prog.funcNamed "mvdan.cc/sh/v3/n010_163.FnIfsJoinSplitRoundTrip" = some 3 by kernel_rfl).symm.trans hf) |>.symm
      obtain rfl : fn = Tryd.f3 := (Option.some.inj (Tryd.func3.symm.trans hfn)).symm
      exact ⟨by kernel_rfl, fun j t ht => by
        rw [Tryd.params3] at ht
        have hm : t ∈ [9, 22] := by simpa using Array.mem_of_getElem? ht
        have hall : ([9, 22].all fun u => !Tryd.prog.wantsStandIn u) = true := by kernel_rfl
        exact (show Tryd.prog.wantsStandIn t = false by simpa using List.all_eq_true.1 hall t hm)⟩)
    (by kernel_rfl)
#print axioms proved
end Go.Proofs.YtcncmbniaabhkaaDoor.fnIfsJoinSplitRoundTrip
