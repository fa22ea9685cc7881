/-
  For every string s, FnPeekRestShrinksOneRuneAtATime returns true. The tables unicode/utf8.first and acceptRanges start as the program's text lays them (the card ties them).
  The frame round the walk was written by a printer (mkframe.py), after the kit's own shells.
-/
import Derived.Test.YtjldjndojmgabaaDoorRows
import Derived.WalkKit
import Derived.ProofKit
import Derived.OpenShut
import Derived.Test.YtjldjndojmgabaaDoorLex
import Derived.Test.YtjldjndojmgabaaDoorTie
import Derived.Test.YtjldjndojmgabaaDoorCards
import Derived.LaidMore
import Derived.Lay
import Derived.SevenTiedAt
import Derived.Stop.Joined
import Derived.ShutString
import Derived.ChangeOld
import Derived.Below
namespace Go.Proofs.YtjldjndojmgabaaDoor.fnPeekRestShrinksOneRuneAtATime
open Go.ChangeShapes Go.WideShapes Go.ChangeAt Go.RowKit
open Go.ChangeMaps (open_string shut_string)
set_option linter.unusedVariables false
open Go.Proofs.YtjldjndojmgabaaDoor.lex

theorem own : ownKnob Tryd.prog.godebug = none := by kernel_rfl
theorem laidOut : laidOutB Tryd.prog = true := by kernel_rfl

theorem extra : U8Extra Tryd.prog Tryd.lays260_ren := ⟨by kernel_rfl, by kernel_rfl, by kernel_rfl, by kernel_rfl, by kernel_rfl, by kernel_rfl, by kernel_rfl⟩
theorem first_is : Rows.laid_unicode_utf8_first = Lib.firstData := by kernel_rfl
theorem acc_is : Rows.laid_unicode_utf8_acceptRanges = Lib.acceptData := by kernel_rfl
theorem tabs_of {W : World} (h : laidMet Tryd.prog Rows.fnPeekRestShrinksOneRuneAtATimeRow.laid W) : Lib.Utf8Tabs 0 1 W ∧ 1 < W.heap.size := by
  have h3 := Lib.laidMet.reads h (n := "unicode/utf8.first") (d := Lib.firstData) (by rw [← first_is]; exact List.mem_cons_of_mem _ (List.mem_cons_self ..))
  have h4 := Lib.laidMet.reads h (n := "unicode/utf8.acceptRanges") (d := Lib.acceptData) (by rw [← acc_is]; exact List.mem_cons_self ..)
  have hT : Lib.Utf8Tabs 0 1 W := utf8Tabs_of_reads Tryd.lays260 extra h3 h4
  exact ⟨hT, World.block_lt_of_cell? W ⟨1, 0, none⟩ (hT.2 0 (by omega)).1⟩
set_option maxRecDepth 100000 in
set_option maxHeartbeats 4000000 in
theorem walk (a0 : ByteArray) (w : World) (w0 : a0.size ≤ maxLen) (hlaid : Lib.Utf8Tabs 0 1 w ∧ 1 < w.heap.size) :
    Calls Tryd.prog 3 #[.string a0] w fun e w' => e = .returned (.bool true) ∧ Below w.heap.size w w' := by
  unfold maxLen at w0
  obtain ⟨hT, hg⟩ := hlaid
  have HT := Lib.hid hT
  clear hT
  by_cases hbig : a0.size ≤ 1048576
  rotate_left
  · go_enter Tryd.func3, Tryd.ntmps3
    go_wp2
    all_goals (go_ret; exact ⟨rfl, Below.refl _ _⟩)
  go_enter Tryd.func3, Tryd.ntmps3
  go_wp2_with (first | (go_at_call 4; go_in) | (go_at_call 5; refine (new_any _ _).mono ?_; rintro e w' ⟨rfl, rfl⟩))
  have hA0 : At a0 w.heap.size 0 w (w.alloc (.cells #[.string a0, .int .i64 0] 28)) := by
    have b0 : Below w.heap.size w (w.alloc (.cells #[.string a0, .int .i64 0] 28)) := (Below.refl _ _).alloc (Nat.le_refl _) _
    refine ⟨by simp, by simp, by simp, ?_, b0⟩
    exact ⟨fun c hc => (b0.cell (p := ⟨0, c, none⟩) (by show 0 < _; omega)).trans (HT.out.1 c hc), fun i hi => ⟨(b0.cell (p := ⟨1, 2 * i, none⟩) hg).trans (HT.out.2 i hi).1, (b0.cell (p := ⟨1, 2 * i + 1, none⟩) hg).trans (HT.out.2 i hi).2⟩⟩
  have HA0 := Lib.hid hA0
  clear hA0
  go_loopw [4] (fun i wr => ∃ k p : Nat, i = .int .i64 k ∧ k ≤ p ∧ p ≤ a0.size ∧ (k = 0 → p = 0) ∧ At a0 w.heap.size p w wr) (fun i _ => a0.size + 1 - (intOf i).toNat)
  case atStart => exact ⟨0, 0, rfl, Nat.le_refl _, by omega, fun _ => rfl, HA0.out⟩
  case round =>
    obtain ⟨k, p, rfl, hkp, hp, hk0, hA⟩ := hrel
    have H := Lib.hid hA
    clear hA HA0
    have j0 : decide (k ≤ a0.size) = true := by simp; omega
    obtain ⟨R, hR⟩ : ∃ R, R = a0.extract p a0.size := ⟨_, rfl⟩
    have hRs : R.size = a0.size - p := by rw [hR]; exact ext_size a0 p hp
    have HR := Lib.hid hR.symm
    have hk1 : k = 0 → R = a0 := fun h => by rw [hR, hk0 h]; exact ext_zero a0
    have HK1 := Lib.hid hk1
    clear hR hk1 hk0
    by_cases hlt : p < a0.size
    · have hRp : 0 < R.size := by omega
      obtain ⟨n1, n2⟩ := ne_list hRp
      obtain ⟨r, d, hd, d1, d4, dR, hlo, hhi⟩ := dec_facts R hRp
      obtain ⟨A, hA2⟩ : ∃ A, A = a0.extract (p + d) a0.size := ⟨_, rfl⟩
      have hAs : A.size = R.size - d := by rw [hA2, ext_size a0 (p + d) (by omega)]; omega
      have hcut : R.extract d R.size = A := by rw [hA2, ← HR.out]; exact ext_ext a0 p d (by omega)
      have hsub : (R.size : Int) - (A.size : Int) = (d : Int) := by omega
      have HA2 := Lib.hid hA2.symm
      have HD := Lib.hid hd
      have HCUT := Lib.hid hcut
      have HSUB := Lib.hid hsub
      have HLO := Lib.hid hlo
      have HHI := Lib.hid hhi
      have q1 : decide ((d : Int) < 1) = false := by simp; omega
      have q2 : decide ((4 : Int) < (d : Int)) = false := by simp; omega
      have q3 : decide (R.size < d) = false := by simp; omega
      have q4 : decide ((R.size : Int) < (d : Int)) = false := by simp; omega
      have bb : (R[0]'hRp).toNat < 256 := (R[0]'hRp).toNat_lt
      have hpd0 : p + d ≤ a0.size := by omega
      clear hA2 hd hcut hsub hlo hhi hAs hRs
      by_cases hk : k = 0
      · obtain rfl := HK1.out hk
        have t0 : ((k : Int) == 0) = true := by simp [hk]
        go_wp2_with fail
        with_reducible refine (peek_any _ _ _ _ _ hbig hp H.out.c0 H.out.c1 HR.out).mono ?_
        rintro e w1 ⟨rfl, hs1⟩
        have H1 := Lib.hid (H.out.same hs1)
        clear hs1
        go_wp2_with fail
        with_reducible refine (peek_any _ _ _ _ _ hbig hp H1.out.c0 H1.out.c1 HR.out).mono ?_
        rintro e w2 ⟨rfl, hs2⟩
        have H2 := Lib.hid (H1.out.same hs2)
        clear hs2
        go_wp2_with fail
        with_reducible refine (next_any _ _ _ _ _ hbig hlt H2.out.c0 H2.out.c1 H2.out.cf HR.out H2.out.tabs r d HD.out d4).mono ?_
        rintro e w3 ⟨rfl, w3', hb3, hw3⟩
        have hpd : (p : Int) + (d : Int) = ((p + d : Nat) : Int) := by omega
        rw [hpd] at hw3
        have hA3 : At R w.heap.size (p + d) w w3 := by rw [hw3]; exact H2.out.next (Nat.le_refl _) hg HT.out hb3 (p + d)
        have H3 := Lib.hid hA3
        clear hw3 hb3 hA3 hpd
        go_wp2_with fail
        with_reducible refine (peek_any _ _ _ _ _ hbig (by omega) H3.out.c0 H3.out.c1 HA2.out).mono ?_
        rintro e w4 ⟨rfl, hs4⟩
        have H4 := Lib.hid (H3.out.same hs4)
        clear hs4
        have hsub := HSUB.out
        have hcut := HCUT.out
        by_cases hb : (R[0]'hRp).toNat < 128
        · obtain ⟨rfl, rfl⟩ := HLO.out hb
          have u1 : decide (((R[0]'hRp).toNat : Int) < 128) = true := by simp; omega
          have u2 : decide ((128 : Int) ≤ ((R[0]'hRp).toNat : Int)) = false := by simp; omega
          go_wp2_with fail
          go_roundw
          case rel => exact ⟨k + 1, p + 1, by go_num, by omega, by omega, by omega, H4.out⟩
          case measure => simp [intOf]; omega
        · have u1 : decide (((R[0]'hRp).toNat : Int) < 128) = false := by simp; omega
          have u2 : decide ((128 : Int) ≤ ((R[0]'hRp).toNat : Int)) = true := by simp; omega
          by_cases hd1 : d = 1
          · obtain rfl := HHI.out (by omega) hd1
            subst hd1
            go_wp2_with fail
            go_roundw
            case rel => exact ⟨k + 1, p + 1, by go_num, by omega, by omega, by omega, H4.out⟩
            case measure => simp [intOf]; omega
          · have u3 : ((d : Int) == 1) = false := by simp; omega
            go_wp2_with fail
            go_roundw
            case rel => exact ⟨k + 1, p + d, by go_num, by omega, by omega, by omega, H4.out⟩
            case measure => simp [intOf]; omega
      · have t0 : ((k : Int) == 0) = false := by simp [hk]
        go_wp2_with fail
        with_reducible refine (peek_any _ _ _ _ _ hbig hp H.out.c0 H.out.c1 HR.out).mono ?_
        rintro e w1 ⟨rfl, hs1⟩
        have H1 := Lib.hid (H.out.same hs1)
        clear hs1
        go_wp2_with fail
        with_reducible refine (peek_any _ _ _ _ _ hbig hp H1.out.c0 H1.out.c1 HR.out).mono ?_
        rintro e w2 ⟨rfl, hs2⟩
        have H2 := Lib.hid (H1.out.same hs2)
        clear hs2
        go_wp2_with fail
        with_reducible refine (next_any _ _ _ _ _ hbig hlt H2.out.c0 H2.out.c1 H2.out.cf HR.out H2.out.tabs r d HD.out d4).mono ?_
        rintro e w3 ⟨rfl, w3', hb3, hw3⟩
        have hpd : (p : Int) + (d : Int) = ((p + d : Nat) : Int) := by omega
        rw [hpd] at hw3
        have hA3 : At a0 w.heap.size (p + d) w w3 := by rw [hw3]; exact H2.out.next (Nat.le_refl _) hg HT.out hb3 (p + d)
        have H3 := Lib.hid hA3
        clear hw3 hb3 hA3 hpd
        go_wp2_with fail
        with_reducible refine (peek_any _ _ _ _ _ hbig (by omega) H3.out.c0 H3.out.c1 HA2.out).mono ?_
        rintro e w4 ⟨rfl, hs4⟩
        have H4 := Lib.hid (H3.out.same hs4)
        clear hs4
        have hsub := HSUB.out
        have hcut := HCUT.out
        by_cases hb : (R[0]'hRp).toNat < 128
        · obtain ⟨rfl, rfl⟩ := HLO.out hb
          have u1 : decide (((R[0]'hRp).toNat : Int) < 128) = true := by simp; omega
          have u2 : decide ((128 : Int) ≤ ((R[0]'hRp).toNat : Int)) = false := by simp; omega
          go_wp2_with fail
          go_roundw
          case rel => exact ⟨k + 1, p + 1, by go_num, by omega, by omega, by omega, H4.out⟩
          case measure => simp [intOf]; omega
        · have u1 : decide (((R[0]'hRp).toNat : Int) < 128) = false := by simp; omega
          have u2 : decide ((128 : Int) ≤ ((R[0]'hRp).toNat : Int)) = true := by simp; omega
          by_cases hd1 : d = 1
          · obtain rfl := HHI.out (by omega) hd1
            subst hd1
            go_wp2_with fail
            go_roundw
            case rel => exact ⟨k + 1, p + 1, by go_num, by omega, by omega, by omega, H4.out⟩
            case measure => simp [intOf]; omega
          · have u3 : ((d : Int) == 1) = false := by simp; omega
            go_wp2_with fail
            go_roundw
            case rel => exact ⟨k + 1, p + d, by go_num, by omega, by omega, by omega, H4.out⟩
            case measure => simp [intOf]; omega
    · obtain rfl : p = a0.size := by omega
      obtain rfl : R = ⟨#[]⟩ := by rw [← HR.out]; exact ext_nil a0
      by_cases hk : k = 0
      · have e0 := HK1.out hk
        have t0 : ((k : Int) == 0) = true := by simp [hk]
        have m1 : a0.toList = [] := by rw [← e0, Lib.toList_data]
        have m2 : a0.toList.isEmpty = true := by rw [m1]; rfl
        clear e0
        go_wp2_with fail
        with_reducible refine (peek_any _ _ _ _ _ hbig (by omega) H.out.c0 H.out.c1 HR.out).mono ?_
        rintro e w1 ⟨rfl, hs1⟩
        have H1 := Lib.hid (H.out.same hs1)
        clear hs1
        go_wp2_with fail
        with_reducible refine (peek_any _ _ _ _ _ hbig (by omega) H1.out.c0 H1.out.c1 HR.out).mono ?_
        rintro e w2 ⟨rfl, hs2⟩
        have H2 := Lib.hid (H1.out.same hs2)
        clear hs2
        go_wp2_with fail
        with_reducible refine (next_end _ _ _ hbig H2.out.c0 H2.out.c1).mono ?_
        rintro e w3 ⟨rfl, hs3⟩
        have H3 := Lib.hid (H2.out.same hs3)
        clear hs3
        go_wp2_with fail
        with_reducible refine (peek_any _ _ _ _ _ hbig (by omega) H3.out.c0 H3.out.c1 HR.out).mono ?_
        rintro e w4 ⟨rfl, hs4⟩
        have H4 := Lib.hid (H3.out.same hs4)
        clear hs4
        go_wp2_with fail
        go_ret
        exact ⟨rfl, H4.out.bel⟩
      · have t0 : ((k : Int) == 0) = false := by simp [hk]
        go_wp2_with fail
        with_reducible refine (peek_any _ _ _ _ _ hbig (by omega) H.out.c0 H.out.c1 HR.out).mono ?_
        rintro e w1 ⟨rfl, hs1⟩
        have H1 := Lib.hid (H.out.same hs1)
        clear hs1
        go_wp2_with fail
        with_reducible refine (peek_any _ _ _ _ _ hbig (by omega) H1.out.c0 H1.out.c1 HR.out).mono ?_
        rintro e w2 ⟨rfl, hs2⟩
        have H2 := Lib.hid (H1.out.same hs2)
        clear hs2
        go_wp2_with fail
        with_reducible refine (next_end _ _ _ hbig H2.out.c0 H2.out.c1).mono ?_
        rintro e w3 ⟨rfl, hs3⟩
        have H3 := Lib.hid (H2.out.same hs3)
        clear hs3
        go_wp2_with fail
        with_reducible refine (peek_any _ _ _ _ _ hbig (by omega) H3.out.c0 H3.out.c1 HR.out).mono ?_
        rintro e w4 ⟨rfl, hs4⟩
        have H4 := Lib.hid (H3.out.same hs4)
        clear hs4
        go_wp2_with fail
        go_ret
        exact ⟨rfl, H4.out.bel⟩

/-! ### The row's step (frame) -/
set_option maxRecDepth 100000 in
theorem lifted (os : Os) (started : os.Started) (H : Type) (enc : TypeId × Value → H) :
    ReturnsInHanded {} Tryd.checked os 3 .any (fun w args => (Rows.fnPeekRestShrinksOneRuneAtATimeSpec.pre enc Tryd.prog Tryd.f3 Rows.fnPeekRestShrinksOneRuneAtATimeRow.domain false w args ∧ laidMetH Tryd.prog Rows.fnPeekRestShrinksOneRuneAtATimeRow.laid w) ∧ sizedMet enc Tryd.prog Tryd.f3 (OpenSpec.ofChange Rows.fnPeekRestShrinksOneRuneAtATimeSpec) false w args) (Rows.fnPeekRestShrinksOneRuneAtATimeSpec.post enc Tryd.prog Tryd.f3 false true false false) := by
  refine returnsInHanded_of_change_and (C := Tryd.checked) (X := fun w _ => laidMetH Tryd.prog Rows.fnPeekRestShrinksOneRuneAtATimeRow.laid w) (fun _ _ _ hh h => h.of_heap hh) own started (by kernel_rfl) Tryd.func3
    (ChangeSpec.witness_shaped (enc := enc) (C := Tryd.checked) (os := os) (X := fun w _ => laidMetH Tryd.prog Rows.fnPeekRestShrinksOneRuneAtATimeRow.laid w) false (World.laidAll Tryd.prog os Rows.fnPeekRestShrinksOneRuneAtATimeRow.laid) #[.string ByteArray.empty] 8 (World.laidAll_os _ _ _)
      (World.shaped_of_ZipB (by kernel_rfl) (by kernel_rfl)) (by kernel_rfl) (by kernel_rfl) (by kernel_rfl)
      (by rw [MakeChecks.laidMetH_plain _ _ _ (by kernel_rfl)]; exact laidMet_laidAll _ (by kernel_rfl) (by kernel_rfl))) ?_
  intro W base args ds gs before hval0 hW hcnd _ hL _
  have hval : ∀ (j : Nat) t v, Tryd.f3.params[j]? = some t → args[j]? = some v → Value.okWide Tryd.prog W .any base t v := hval0
  have hW' := hW
  obtain ⟨p, q, hA0, hV, rfl, hfz, hnd⟩ := hW
  have hA : DataW.TrodAll enc Tryd.prog W 0 (fun _ => true) true Tryd.f3.params.toList args.toList ds p := hA0
  rw [Tryd.params3] at hA hval
  obtain ⟨v0, vs0, d0, ds0, p0, q0, hargs, rfl, rfl, h0, r0⟩ := trodAll_cons hA
  obtain ⟨rfl, rfl, rfl⟩ := trodAll_nil r0
  obtain rfl : args = #[v0] := by cases args; simp_all
  obtain ⟨rfl, rfl⟩ := trodVars_none hV
  obtain ⟨a0, rfl, rfl, rfl, w0⟩ := open_string Tryd.underlying9 (hval 0 9 v0 rfl rfl) h0
  clear hA0 hval0
  refine (walk a0 W w0 (tabs_of (by rw [MakeChecks.laidMetH_plain _ _ _ (by kernel_rfl)] at hL; exact hL))).mono fun e W' ⟨he, bel⟩ => ?_
  subst he
  exact ⟨_, rfl, _, _, _, [], _, [], hW', trodAll_mk1 (shut_bool Tryd.underlying4 _), (trodAll_cons_mk (shut_string Tryd.underlying9 w0) trodAll_mk0), rfl, bel.frame _, fun h => by cases h⟩

theorem over : Rows.fnPeekRestShrinksOneRuneAtATimeRow.holds Tryd.pinned (OpenSpec.ofChange Rows.fnPeekRestShrinksOneRuneAtATimeSpec) :=
  OpenClaim.holds_of_wide 3 Tryd.f3 rfl rfl rfl rfl rfl rfl rfl ⟨rfl, rfl, rfl, rfl, rfl⟩ rfl rfl rfl rfl rfl (by kernel_rfl) Tryd.func3 (by kernel_rfl)
    (of_decide_eq_true (by kernel_rfl)) (by unfold Func.isWrapper; first | (rw [if_pos (by decide +kernel)]; kernel_rfl) | (rw [if_neg (by decide +kernel)]; exact ⟨rfl, rfl⟩))
    (fun os started H enc _ => lifted os started H enc)

/-- The statement. -/
theorem proved : Rows.FnPeekRestShrinksOneRuneAtATimeCardSaid :=
  Claim7.holds_tied_plain_at .later [] [.data, .pinned] true (true, "395fb215a7a6c2d4a95f92a687f5037fa37cc4efea80669db035a080f3d17550") false
    over (fun _ h => by cases h) (by kernel_rfl) (fun _ h => by cases h) fnPeekRestShrinksOneRuneAtATime_row_tie rfl ⟨rfl, rfl⟩ (by kernel_rfl) rfl
    (fun f fn hf hfn => by
      obtain rfl : f = 3 := Option.some.inj ((show Tryd.prog.funcNamed "mvdan.cc/sh/v3/n010_127.FnPeekRestShrinksOneRuneAtATime" = some 3 by kernel_rfl).symm.trans hf) |>.symm
      obtain rfl : fn = Tryd.f3 := (Option.some.inj (Tryd.func3.symm.trans hfn)).symm
      exact ⟨by kernel_rfl, fun j t ht => by
        rw [Tryd.params3] at ht
        have hm : t ∈ [9] := by simpa using Array.mem_of_getElem? ht
        have hall : ([9].all fun u => !Tryd.prog.wantsStandIn u) = true := by kernel_rfl
        exact (show Tryd.prog.wantsStandIn t = false by simpa using List.all_eq_true.1 hall t hm)⟩)
    (by kernel_rfl)
#print axioms proved
end Go.Proofs.YtjldjndojmgabaaDoor.fnPeekRestShrinksOneRuneAtATime
