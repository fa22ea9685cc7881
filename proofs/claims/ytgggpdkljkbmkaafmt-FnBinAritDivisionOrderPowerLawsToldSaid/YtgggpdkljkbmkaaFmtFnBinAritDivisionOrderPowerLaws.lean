/-
  For all ints x, y, a and b, FnBinAritDivisionOrderPowerLaws returns true. A told card: the road passes fmt.errorf, which is asked nothing here (no operand, no verb).
  The frame round the walk was written by a printer (mkframe.py), after the kit's own shells.
-/
import Derived.Test.YtgggpdkljkbmkaaFmtRows
import Derived.WalkKit
import Derived.ProofKit
import Derived.OpenShut
import Derived.Test.YtgggpdkljkbmkaaFmtArit
import Derived.Test.YtgggpdkljkbmkaaFmtCards
import Derived.Stop.JoinedTold
import Derived.SevenToldRow
import Derived.ShutString
import Derived.ChangeOld
import Derived.Below
namespace Go.Proofs.YtgggpdkljkbmkaaFmt.fnBinAritDivisionOrderPowerLaws
open Go.ChangeShapes Go.WideShapes Go.ChangeAt Go.RowKit
open Go.ChangeMaps (open_string shut_string)
set_option linter.unusedVariables false
open Go.Extern.Stop Go.Stop Go.Extern
open Go.Proofs.YtgggpdkljkbmkaaFmt.plain
open Go.Proofs.YtgggpdkljkbmkaaFmt.arit

theorem own : ownKnob Tryf.prog.godebug = none := by kernel_rfl
theorem laidOut : laidOutB Tryf.prog = true := by kernel_rfl


set_option maxRecDepth 100000 in
set_option maxHeartbeats 8000000 in
theorem walk (F : Interp) (a0 : Int) (a1 : Int) (a2 : Int) (a3 : Int) (w : World) (hF : F.answers w.tape) (w0 : (Lit.int .i64 a0).wf = true) (w1 : (Lit.int .i64 a1).wf = true) (w2 : (Lit.int .i64 a2).wf = true) (w3 : (Lit.int .i64 a3).wf = true) :
    Calls Tryf.prog 3 #[.int .i64 a0, .int .i64 a1, .int .i64 a2, .int .i64 a3] w fun e w' => e = .returned (.bool true) ∧ Below w.heap.size w w' := by
  obtain ⟨x1, x2⟩ := wf_i64 w0
  obtain ⟨y1, y2⟩ := wf_i64 w1
  obtain ⟨p1, p2⟩ := wf_i64 w2
  obtain ⟨q1, q2⟩ := wf_i64 w3
  clear w0 w1 w2 w3
  obtain ⟨S, hadd, hsub⟩ : ∃ S : Int, (∀ w, Calls Tryf.prog 4 #[.int .u32 81, .int .i64 a0, .int .i64 a1] w fun e w' => e = .returned (.tuple #[.int .i64 S, .nilIface]) ∧ w = w') ∧ (∀ w, Calls Tryf.prog 4 #[.int .u32 83, .int .i64 S, .int .i64 a1] w fun e w' => e = .returned (.tuple #[.int .i64 a0, .nilIface]) ∧ w = w') :=
    ⟨wrap64 (a0 + a1), fun w => add_any a0 a1 w, fun w => (sub_any _ a1 w).mono fun e w' h => ⟨by rw [h.1, sub_add a0 a1 x1 x2], h.2⟩⟩
  have HA := Lib.hid hadd
  have HS := Lib.hid hsub
  clear hadd hsub
  obtain ⟨l, hl, l0, l1, hlv⟩ : ∃ l : Int, (∀ w, Calls Tryf.prog 4 #[.int .u32 65, .int .i64 a0, .int .i64 a1] w fun e w' => e = .returned (.tuple #[.int .i64 l, .nilIface]) ∧ w = w') ∧ 0 ≤ l ∧ l ≤ 1 ∧ l = (bif decide (a0 < a1) then 1 else 0) :=
    ⟨_, fun w => lss_any a0 a1 _ w rfl, by cases decide (a0 < a1) <;> simp, by cases decide (a0 < a1) <;> simp, rfl⟩
  obtain ⟨e, he, e0, e1, hev⟩ : ∃ l : Int, (∀ w, Calls Tryf.prog 4 #[.int .u32 45, .int .i64 a0, .int .i64 a1] w fun e w' => e = .returned (.tuple #[.int .i64 l, .nilIface]) ∧ w = w') ∧ 0 ≤ l ∧ l ≤ 1 ∧ l = (bif (a0 == a1) then 1 else 0) :=
    ⟨_, fun w => eql_any a0 a1 _ w rfl, by cases (a0 == a1) <;> simp, by cases (a0 == a1) <;> simp, rfl⟩
  obtain ⟨g, hg, g0, g1, hgv⟩ : ∃ l : Int, (∀ w, Calls Tryf.prog 4 #[.int .u32 63, .int .i64 a0, .int .i64 a1] w fun e w' => e = .returned (.tuple #[.int .i64 l, .nilIface]) ∧ w = w') ∧ 0 ≤ l ∧ l ≤ 1 ∧ l = (bif decide (a1 < a0) then 1 else 0) :=
    ⟨_, fun w => gtr_any a0 a1 _ w rfl, by cases decide (a1 < a0) <;> simp, by cases decide (a1 < a0) <;> simp, rfl⟩
  obtain ⟨le, hle, le0, le1, hlev⟩ : ∃ l : Int, (∀ w, Calls Tryf.prog 4 #[.int .u32 47, .int .i64 a0, .int .i64 a1] w fun e w' => e = .returned (.tuple #[.int .i64 l, .nilIface]) ∧ w = w') ∧ 0 ≤ l ∧ l ≤ 1 ∧ l = (bif decide (a0 ≤ a1) then 1 else 0) :=
    ⟨_, fun w => leq_any a0 a1 _ w rfl, by cases decide (a0 ≤ a1) <;> simp, by cases decide (a0 ≤ a1) <;> simp, rfl⟩
  obtain ⟨ge, hge, ge0, ge1, hgev⟩ : ∃ l : Int, (∀ w, Calls Tryf.prog 4 #[.int .u32 48, .int .i64 a0, .int .i64 a1] w fun e w' => e = .returned (.tuple #[.int .i64 l, .nilIface]) ∧ w = w') ∧ 0 ≤ l ∧ l ≤ 1 ∧ l = (bif decide (a1 ≤ a0) then 1 else 0) :=
    ⟨_, fun w => geq_any a0 a1 _ w rfl, by cases decide (a1 ≤ a0) <;> simp, by cases decide (a1 ≤ a0) <;> simp, rfl⟩
  obtain ⟨ne, hne, ne0, ne1, hnev⟩ : ∃ l : Int, (∀ w, Calls Tryf.prog 4 #[.int .u32 46, .int .i64 a0, .int .i64 a1] w fun e w' => e = .returned (.tuple #[.int .i64 l, .nilIface]) ∧ w = w') ∧ 0 ≤ l ∧ l ≤ 1 ∧ l = (bif (a0 != a1) then 1 else 0) :=
    ⟨_, fun w => neq_any a0 a1 _ w rfl, by cases (a0 != a1) <;> simp, by cases (a0 != a1) <;> simp, rfl⟩
  have hrv : ∀ w, Calls Tryf.prog 4 #[.int .u32 63, .int .i64 a1, .int .i64 a0] w fun e w' => e = .returned (.tuple #[.int .i64 l, .nilIface]) ∧ w = w' := fun w => by rw [hlv]; exact gtr_any a1 a0 _ w rfl
  have hall : l + e + g = 1 ∧ le = l + e ∧ ge = g + e ∧ ne = 1 - e := by
    rw [hlv, hev, hgv, hlev, hgev, hnev]
    rcases Int.lt_trichotomy a0 a1 with h | h | h
    · have k1 : ¬ a1 < a0 := by omega
      have k2 : a0 ≤ a1 := by omega
      have k3 : ¬ a1 ≤ a0 := by omega
      have k4 : a0 ≠ a1 := by omega
      have k5 : (a0 == a1) = false := by simpa using k4
      have k6 : (a0 != a1) = true := by simpa using k4
      simp [h, k1, k2, k3, k5, k6]
    · subst h; simp
    · have k1 : ¬ a0 < a1 := by omega
      have k2 : ¬ a0 ≤ a1 := by omega
      have k3 : a1 ≤ a0 := by omega
      have k4 : a0 ≠ a1 := by omega
      have k5 : (a0 == a1) = false := by simpa using k4
      have k6 : (a0 != a1) = true := by simpa using k4
      simp [h, k1, k2, k3, k5, k6]
  obtain ⟨s1, s2, s3, s4⟩ := hall
  have t1 : (l + e + g != 1) = false := by simp [s1]
  have t2 : (le != l + e) = false := by simp [s2]
  have t3 : (ge != g + e) = false := by simp [s3]
  have t4 : (ne != 1 - e) = false := by simp [s4]
  have HL := Lib.hid hl; have HE := Lib.hid he; have HG := Lib.hid hg; have HLE := Lib.hid hle; have HGE := Lib.hid hge; have HNE := Lib.hid hne; have HRV := Lib.hid hrv
  clear hl he hg hle hge hne hrv hlv hev hgv hlev hgev hnev s1 s2 s3 s4
  have d1 : decide (l < 0) = false := by simp; omega
  have d2 : decide (1 < l) = false := by simp; omega
  have d3 : decide (e < 0) = false := by simp; omega
  have d4 : decide (1 < e) = false := by simp; omega
  have d5 : decide (g < 0) = false := by simp; omega
  have d6 : decide (1 < g) = false := by simp; omega
  have HP := Lib.hid (show ∀ w, Calls Tryf.prog 4 #[.int .u32 44, .int .i64 a0, .int .i64 0] w fun e w' => e = .returned (.tuple #[.int .i64 1, .nilIface]) ∧ w = w' from fun w => (pow_any a0 0 w (by omega) (by omega)).mono fun e w' h => ⟨by rw [h.1, powW_zero], h.2⟩)
  by_cases hy : a1 = 0
  · subst hy
    go_enter Tryf.func3, Tryf.ntmps3
    go_wp2_with fail
    with_reducible refine (quo_zero _ _).mono ?_
    rintro _ w1 ⟨t1', p1', rfl, hb1⟩
    go_wp2_with fail
    with_reducible refine (rem_zero _ _).mono ?_
    rintro _ w2 ⟨t2', p2', rfl, hb2⟩
    have HBB := Lib.hid (hb1.trans (hb2.mono hb1.size))
    clear hb1 hb2
    go_wp2_with fail
    with_reducible refine (HL.out _).mono ?_
    rintro _ w' ⟨rfl, rfl⟩
    go_wp2_with fail
    with_reducible refine (HE.out _).mono ?_
    rintro _ w' ⟨rfl, rfl⟩
    go_wp2_with fail
    with_reducible refine (HG.out _).mono ?_
    rintro _ w' ⟨rfl, rfl⟩
    go_wp2_with fail
    with_reducible refine (HLE.out _).mono ?_
    rintro _ w' ⟨rfl, rfl⟩
    go_wp2_with fail
    with_reducible refine (HGE.out _).mono ?_
    rintro _ w' ⟨rfl, rfl⟩
    go_wp2_with fail
    with_reducible refine (HNE.out _).mono ?_
    rintro _ w' ⟨rfl, rfl⟩
    go_wp2_with fail
    with_reducible refine (HRV.out _).mono ?_
    rintro _ w' ⟨rfl, rfl⟩
    go_wp2_with fail
    with_reducible refine (HA.out _).mono ?_
    rintro _ w' ⟨rfl, rfl⟩
    go_wp2_with fail
    with_reducible refine (HS.out _).mono ?_
    rintro _ w' ⟨rfl, rfl⟩
    go_wp2_with fail
    with_reducible refine (HP.out _).mono ?_
    rintro _ w' ⟨rfl, rfl⟩
    by_cases ha : a2 < 0
    · go_wp2_with fail
      with_reducible refine (pow_neg _ _ _ ha).mono ?_
      rintro _ w2 ⟨t, p, rfl, hb⟩
      go_wp2_with fail
      go_ret
      exact ⟨rfl, (HBB.out).trans (hb.mono (HBB.out).size)⟩
    · by_cases hb0 : a3 < 0
      · have u1 : decide (0 ≤ a3) = false := by simp; omega
        go_wp2_with fail
        go_ret
        exact ⟨rfl, HBB.out⟩
      · by_cases hs : 9223372036854775807 - a3 < a2
        · have u1 : decide (a2 ≤ 9223372036854775807 - a3) = false := by simp; omega
          go_wp2_with fail
          go_ret
          exact ⟨rfl, HBB.out⟩
        · have u1 : decide (a2 ≤ 9223372036854775807 - a3) = true := by simp; omega
          have u2 : decide (0 ≤ a3) = true := by simp; omega
          have hpw := powW_add a0 a2 a3 (by omega) (by omega)
          have K1 := Lib.hid (fun w => pow_any a0 a2 w (by omega) (by omega))
          have K2 := Lib.hid (fun w => pow_any a0 a3 w (by omega) (by omega))
          have K3 := Lib.hid (fun w => pow_any a0 (a2 + a3) w (by omega) (by omega))
          obtain ⟨A, hA⟩ : ∃ A, A = powW a0 a2 := ⟨_, rfl⟩
          obtain ⟨B, hB⟩ : ∃ B, B = powW a0 a3 := ⟨_, rfl⟩
          rw [← hA] at K1 hpw
          rw [← hB] at K2 hpw
          rw [hpw] at K3
          clear hpw hA hB
          go_wp2_with fail
          with_reducible refine (K1.out _).mono ?_
          rintro _ w' ⟨rfl, rfl⟩
          go_wp2_with fail
          with_reducible refine (K2.out _).mono ?_
          rintro _ w' ⟨rfl, rfl⟩
          go_wp2_with fail
          with_reducible refine (K3.out _).mono ?_
          rintro _ w' ⟨rfl, rfl⟩
          go_wp2_with fail
          go_ret
          exact ⟨rfl, HBB.out⟩
  · have hy' : (a1 == 0) = false := by simpa using hy
    have hy2 : (a1 != 0) = true := by simpa using hy
    obtain ⟨f1, f2, f3, f4⟩ := div_facts a0 a1 x1 x2 hy
    have HQ := Lib.hid (fun w => quo_any a0 a1 w hy')
    have HR := Lib.hid (fun w => rem_any a0 a1 w hy')
    generalize wrap64 (a0.tdiv a1) = Q at f1 HQ
    generalize a0.tmod a1 = R at f1 f2 f3 f4 HR
    have v1 : (wrap64 (wrap64 (Q * a1) + R) != a0) = false := by simp [f1]
    have v2 : decide ((a1.natAbs : Int) ≤ (R.natAbs : Int)) = false := by simp; omega
    have v2' : decide (a1.natAbs ≤ R.natAbs) = false := by simp; omega
    have KA := Lib.hid (fun w => abs_any R w (by omega) (by omega))
    have KB := Lib.hid (fun w => abs_any a1 w y1 y2)
    generalize (R.natAbs : Int) = RA at KA v2
    generalize (a1.natAbs : Int) = YA at KB v2
    clear v2' f1 f2
    by_cases hr : R = 0
    · have r0 : (R != 0) = false := by simp [hr]
      clear f3 f4 hr
      go_enter Tryf.func3, Tryf.ntmps3
      go_wp2_with fail
      with_reducible refine (HQ.out _).mono ?_
      rintro _ w' ⟨rfl, rfl⟩
      go_wp2_with fail
      with_reducible refine (HR.out _).mono ?_
      rintro _ w' ⟨rfl, rfl⟩
      go_wp2_with fail
      with_reducible refine (KA.out _).mono ?_
      rintro _ w' ⟨rfl, rfl⟩
      go_wp2_with fail
      with_reducible refine (KB.out _).mono ?_
      rintro _ w' ⟨rfl, rfl⟩
      go_wp2_with fail
      with_reducible refine (HL.out _).mono ?_
      rintro _ w' ⟨rfl, rfl⟩
      go_wp2_with fail
      with_reducible refine (HE.out _).mono ?_
      rintro _ w' ⟨rfl, rfl⟩
      go_wp2_with fail
      with_reducible refine (HG.out _).mono ?_
      rintro _ w' ⟨rfl, rfl⟩
      go_wp2_with fail
      with_reducible refine (HLE.out _).mono ?_
      rintro _ w' ⟨rfl, rfl⟩
      go_wp2_with fail
      with_reducible refine (HGE.out _).mono ?_
      rintro _ w' ⟨rfl, rfl⟩
      go_wp2_with fail
      with_reducible refine (HNE.out _).mono ?_
      rintro _ w' ⟨rfl, rfl⟩
      go_wp2_with fail
      with_reducible refine (HRV.out _).mono ?_
      rintro _ w' ⟨rfl, rfl⟩
      go_wp2_with fail
      with_reducible refine (HA.out _).mono ?_
      rintro _ w' ⟨rfl, rfl⟩
      go_wp2_with fail
      with_reducible refine (HS.out _).mono ?_
      rintro _ w' ⟨rfl, rfl⟩
      go_wp2_with fail
      with_reducible refine (HP.out _).mono ?_
      rintro _ w' ⟨rfl, rfl⟩
      by_cases ha : a2 < 0
      · go_wp2_with fail
        with_reducible refine (pow_neg _ _ _ ha).mono ?_
        rintro _ w2 ⟨t, p, rfl, hb⟩
        go_wp2_with fail
        go_ret
        exact ⟨rfl, hb⟩
      · by_cases hb0 : a3 < 0
        · have u1 : decide (0 ≤ a3) = false := by simp; omega
          go_wp2_with fail
          go_ret
          exact ⟨rfl, Below.refl _ _⟩
        · by_cases hs : 9223372036854775807 - a3 < a2
          · have u1 : decide (a2 ≤ 9223372036854775807 - a3) = false := by simp; omega
            go_wp2_with fail
            go_ret
            exact ⟨rfl, Below.refl _ _⟩
          · have u1 : decide (a2 ≤ 9223372036854775807 - a3) = true := by simp; omega
            have u2 : decide (0 ≤ a3) = true := by simp; omega
            have hpw := powW_add a0 a2 a3 (by omega) (by omega)
            have K1 := Lib.hid (fun w => pow_any a0 a2 w (by omega) (by omega))
            have K2 := Lib.hid (fun w => pow_any a0 a3 w (by omega) (by omega))
            have K3 := Lib.hid (fun w => pow_any a0 (a2 + a3) w (by omega) (by omega))
            obtain ⟨A, hA⟩ : ∃ A, A = powW a0 a2 := ⟨_, rfl⟩
            obtain ⟨B, hB⟩ : ∃ B, B = powW a0 a3 := ⟨_, rfl⟩
            rw [← hA] at K1 hpw
            rw [← hB] at K2 hpw
            rw [hpw] at K3
            clear hpw hA hB
            go_wp2_with fail
            with_reducible refine (K1.out _).mono ?_
            rintro _ w' ⟨rfl, rfl⟩
            go_wp2_with fail
            with_reducible refine (K2.out _).mono ?_
            rintro _ w' ⟨rfl, rfl⟩
            go_wp2_with fail
            with_reducible refine (K3.out _).mono ?_
            rintro _ w' ⟨rfl, rfl⟩
            go_wp2_with fail
            go_ret
            exact ⟨rfl, Below.refl _ _⟩
    · have r1 : (R != 0) = true := by simpa using hr
      by_cases hx0 : a0 < 0
      · have r3 : R < 0 := by have := f3 hx0; omega
        clear f3 f4
        go_enter Tryf.func3, Tryf.ntmps3
        go_wp2_with fail
        with_reducible refine (HQ.out _).mono ?_
        rintro _ w' ⟨rfl, rfl⟩
        go_wp2_with fail
        with_reducible refine (HR.out _).mono ?_
        rintro _ w' ⟨rfl, rfl⟩
        go_wp2_with fail
        with_reducible refine (KA.out _).mono ?_
        rintro _ w' ⟨rfl, rfl⟩
        go_wp2_with fail
        with_reducible refine (KB.out _).mono ?_
        rintro _ w' ⟨rfl, rfl⟩
        go_wp2_with fail
        with_reducible refine (HL.out _).mono ?_
        rintro _ w' ⟨rfl, rfl⟩
        go_wp2_with fail
        with_reducible refine (HE.out _).mono ?_
        rintro _ w' ⟨rfl, rfl⟩
        go_wp2_with fail
        with_reducible refine (HG.out _).mono ?_
        rintro _ w' ⟨rfl, rfl⟩
        go_wp2_with fail
        with_reducible refine (HLE.out _).mono ?_
        rintro _ w' ⟨rfl, rfl⟩
        go_wp2_with fail
        with_reducible refine (HGE.out _).mono ?_
        rintro _ w' ⟨rfl, rfl⟩
        go_wp2_with fail
        with_reducible refine (HNE.out _).mono ?_
        rintro _ w' ⟨rfl, rfl⟩
        go_wp2_with fail
        with_reducible refine (HRV.out _).mono ?_
        rintro _ w' ⟨rfl, rfl⟩
        go_wp2_with fail
        with_reducible refine (HA.out _).mono ?_
        rintro _ w' ⟨rfl, rfl⟩
        go_wp2_with fail
        with_reducible refine (HS.out _).mono ?_
        rintro _ w' ⟨rfl, rfl⟩
        go_wp2_with fail
        with_reducible refine (HP.out _).mono ?_
        rintro _ w' ⟨rfl, rfl⟩
        by_cases ha : a2 < 0
        · go_wp2_with fail
          with_reducible refine (pow_neg _ _ _ ha).mono ?_
          rintro _ w2 ⟨t, p, rfl, hb⟩
          go_wp2_with fail
          go_ret
          exact ⟨rfl, hb⟩
        · by_cases hb0 : a3 < 0
          · have u1 : decide (0 ≤ a3) = false := by simp; omega
            go_wp2_with fail
            go_ret
            exact ⟨rfl, Below.refl _ _⟩
          · by_cases hs : 9223372036854775807 - a3 < a2
            · have u1 : decide (a2 ≤ 9223372036854775807 - a3) = false := by simp; omega
              go_wp2_with fail
              go_ret
              exact ⟨rfl, Below.refl _ _⟩
            · have u1 : decide (a2 ≤ 9223372036854775807 - a3) = true := by simp; omega
              have u2 : decide (0 ≤ a3) = true := by simp; omega
              have hpw := powW_add a0 a2 a3 (by omega) (by omega)
              have K1 := Lib.hid (fun w => pow_any a0 a2 w (by omega) (by omega))
              have K2 := Lib.hid (fun w => pow_any a0 a3 w (by omega) (by omega))
              have K3 := Lib.hid (fun w => pow_any a0 (a2 + a3) w (by omega) (by omega))
              obtain ⟨A, hA⟩ : ∃ A, A = powW a0 a2 := ⟨_, rfl⟩
              obtain ⟨B, hB⟩ : ∃ B, B = powW a0 a3 := ⟨_, rfl⟩
              rw [← hA] at K1 hpw
              rw [← hB] at K2 hpw
              rw [hpw] at K3
              clear hpw hA hB
              go_wp2_with fail
              with_reducible refine (K1.out _).mono ?_
              rintro _ w' ⟨rfl, rfl⟩
              go_wp2_with fail
              with_reducible refine (K2.out _).mono ?_
              rintro _ w' ⟨rfl, rfl⟩
              go_wp2_with fail
              with_reducible refine (K3.out _).mono ?_
              rintro _ w' ⟨rfl, rfl⟩
              go_wp2_with fail
              go_ret
              exact ⟨rfl, Below.refl _ _⟩
      · have r3 : 0 < R := by have := f4 (by omega); omega
        have r4 : ¬ R < 0 := by omega
        have r5 : decide (R < 0) = false := by simp; omega
        have r6 : decide (a0 < 0) = false := by simp; omega
        clear f3 f4
        go_enter Tryf.func3, Tryf.ntmps3
        go_wp2_with fail
        with_reducible refine (HQ.out _).mono ?_
        rintro _ w' ⟨rfl, rfl⟩
        go_wp2_with fail
        with_reducible refine (HR.out _).mono ?_
        rintro _ w' ⟨rfl, rfl⟩
        go_wp2_with fail
        with_reducible refine (KA.out _).mono ?_
        rintro _ w' ⟨rfl, rfl⟩
        go_wp2_with fail
        with_reducible refine (KB.out _).mono ?_
        rintro _ w' ⟨rfl, rfl⟩
        go_wp2_with fail
        with_reducible refine (HL.out _).mono ?_
        rintro _ w' ⟨rfl, rfl⟩
        go_wp2_with fail
        with_reducible refine (HE.out _).mono ?_
        rintro _ w' ⟨rfl, rfl⟩
        go_wp2_with fail
        with_reducible refine (HG.out _).mono ?_
        rintro _ w' ⟨rfl, rfl⟩
        go_wp2_with fail
        with_reducible refine (HLE.out _).mono ?_
        rintro _ w' ⟨rfl, rfl⟩
        go_wp2_with fail
        with_reducible refine (HGE.out _).mono ?_
        rintro _ w' ⟨rfl, rfl⟩
        go_wp2_with fail
        with_reducible refine (HNE.out _).mono ?_
        rintro _ w' ⟨rfl, rfl⟩
        go_wp2_with fail
        with_reducible refine (HRV.out _).mono ?_
        rintro _ w' ⟨rfl, rfl⟩
        go_wp2_with fail
        with_reducible refine (HA.out _).mono ?_
        rintro _ w' ⟨rfl, rfl⟩
        go_wp2_with fail
        with_reducible refine (HS.out _).mono ?_
        rintro _ w' ⟨rfl, rfl⟩
        go_wp2_with fail
        with_reducible refine (HP.out _).mono ?_
        rintro _ w' ⟨rfl, rfl⟩
        by_cases ha : a2 < 0
        · go_wp2_with fail
          with_reducible refine (pow_neg _ _ _ ha).mono ?_
          rintro _ w2 ⟨t, p, rfl, hb⟩
          go_wp2_with fail
          go_ret
          exact ⟨rfl, hb⟩
        · by_cases hb0 : a3 < 0
          · have u1 : decide (0 ≤ a3) = false := by simp; omega
            go_wp2_with fail
            go_ret
            exact ⟨rfl, Below.refl _ _⟩
          · by_cases hs : 9223372036854775807 - a3 < a2
            · have u1 : decide (a2 ≤ 9223372036854775807 - a3) = false := by simp; omega
              go_wp2_with fail
              go_ret
              exact ⟨rfl, Below.refl _ _⟩
            · have u1 : decide (a2 ≤ 9223372036854775807 - a3) = true := by simp; omega
              have u2 : decide (0 ≤ a3) = true := by simp; omega
              have hpw := powW_add a0 a2 a3 (by omega) (by omega)
              have K1 := Lib.hid (fun w => pow_any a0 a2 w (by omega) (by omega))
              have K2 := Lib.hid (fun w => pow_any a0 a3 w (by omega) (by omega))
              have K3 := Lib.hid (fun w => pow_any a0 (a2 + a3) w (by omega) (by omega))
              obtain ⟨A, hA⟩ : ∃ A, A = powW a0 a2 := ⟨_, rfl⟩
              obtain ⟨B, hB⟩ : ∃ B, B = powW a0 a3 := ⟨_, rfl⟩
              rw [← hA] at K1 hpw
              rw [← hB] at K2 hpw
              rw [hpw] at K3
              clear hpw hA hB
              go_wp2_with fail
              with_reducible refine (K1.out _).mono ?_
              rintro _ w' ⟨rfl, rfl⟩
              go_wp2_with fail
              with_reducible refine (K2.out _).mono ?_
              rintro _ w' ⟨rfl, rfl⟩
              go_wp2_with fail
              with_reducible refine (K3.out _).mono ?_
              rintro _ w' ⟨rfl, rfl⟩
              go_wp2_with fail
              go_ret
              exact ⟨rfl, Below.refl _ _⟩

/-! ### The row's step (frame) -/
set_option maxRecDepth 100000 in
theorem lifted (os : Os) (started : os.Started) (H : Type) (enc : TypeId × Value → H) :
    ReturnsInTold none {} Tryf.checked os 3 .any Input.okWide ((OpenSpec.ofChange Rows.fnBinAritDivisionOrderPowerLawsSpec).preRow enc Tryf.prog Tryf.f3 [] false []) (fun F => ((OpenSpec.ofChange Rows.fnBinAritDivisionOrderPowerLawsSpec).at F).post enc Tryf.prog Tryf.f3 false true false false) (aloneAtReturn Tryf.prog) nothingAlways := by
  refine returnsInTold_of_row (C := Tryf.checked) (s := OpenSpec.ofChange Rows.fnBinAritDivisionOrderPowerLawsSpec) (by kernel_rfl) own started (by kernel_rfl) Tryf.func3
    (OpenSpec.witness_stopped (enc := enc) (C := Tryf.checked) false ⟨#[], #[.int .i64 0, .int .i64 0, .int .i64 0, .int .i64 0], []⟩ 8 (by kernel_rfl) (by kernel_rfl) (by kernel_rfl) (by kernel_rfl)) ?_
  intro F W base args ds gs before _ hF hval0 hW hcnd _ _ _ _
  have hval : ∀ (j : Nat) t v, Tryf.f3.params[j]? = some t → args[j]? = some v → Value.okWide Tryf.prog W .any base t v := hval0
  have hW' := hW
  obtain ⟨p, q, hA0, hV, rfl, hfz, hnd⟩ := hW
  have hA : DataW.TrodAll enc Tryf.prog W 0 (fun _ => true) true Tryf.f3.params.toList args.toList ds p := hA0
  rw [Tryf.params3] at hA hval
  obtain ⟨v0, vs0, d0, ds0, p0, q0, hargs, rfl, rfl, h0, r0⟩ := trodAll_cons hA
  obtain ⟨v1, vs1, d1, ds1, p1, q1, rfl, rfl, rfl, h1, r1⟩ := trodAll_cons r0
  obtain ⟨v2, vs2, d2, ds2, p2, q2, rfl, rfl, rfl, h2, r2⟩ := trodAll_cons r1
  obtain ⟨v3, vs3, d3, ds3, p3, q3, rfl, rfl, rfl, h3, r3⟩ := trodAll_cons r2
  obtain ⟨rfl, rfl, rfl⟩ := trodAll_nil r3
  obtain rfl : args = #[v0, v1, v2, v3] := by cases args; simp_all
  obtain ⟨rfl, rfl⟩ := trodVars_none hV
  obtain ⟨a0, rfl, rfl, rfl, w0⟩ := open_int Tryf.underlying3 (hval 0 3 v0 rfl rfl) h0
  obtain ⟨a1, rfl, rfl, rfl, w1⟩ := open_int Tryf.underlying3 (hval 1 3 v1 rfl rfl) h1
  obtain ⟨a2, rfl, rfl, rfl, w2⟩ := open_int Tryf.underlying3 (hval 2 3 v2 rfl rfl) h2
  obtain ⟨a3, rfl, rfl, rfl, w3⟩ := open_int Tryf.underlying3 (hval 3 3 v3 rfl rfl) h3
  clear hA0 hval0
  refine (walk F.told a0 a1 a2 a3 W hF w0 w1 w2 w3).mono fun e W' ⟨he, bel⟩ => ?_
  subst he
  exact ⟨_, rfl, _, _, _, [], _, [], hW', trodAll_mk1 (shut_bool Tryf.underlying4 _), (trodAll_cons_mk (shut_int Tryf.underlying3 w0) (trodAll_cons_mk (shut_int Tryf.underlying3 w1) (trodAll_cons_mk (shut_int Tryf.underlying3 w2) (trodAll_cons_mk (shut_int Tryf.underlying3 w3) trodAll_mk0)))), rfl, bel.frame _, fun h => by cases h⟩

theorem stops : Tryf.pinned.checked.prog.stops = ["fmt.errorf, its operands' methods called"] := by kernel_rfl
theorem stopKnobs : Tryf.pinned.checked.prog.stopKnobs = [] := by kernel_rfl
theorem quiet (os : Os) : Stop.quiet Tryf.pinned.checked.prog os := by
  intro k hk
  rw [stopKnobs] at hk
  cases hk
/-- The statement: fmt's texts are told by the authors' own Lean function. -/
theorem proved : Rows.FnBinAritDivisionOrderPowerLawsToldSaid :=
  Claim7.holds_of_told_any 3 Tryf.f3 "fmt.errorf, its operands' methods called" [] [] _ _ _ (by kernel_rfl) rfl rfl rfl laidOut (by kernel_rfl) rfl ⟨rfl, rfl, rfl, rfl, rfl, rfl, rfl⟩ rfl rfl (by kernel_rfl) (by kernel_rfl) Tryf.func3 (by kernel_rfl)
    (of_decide_eq_true (by kernel_rfl)) (by unfold Func.isWrapper; first | (rw [if_pos (by decide +kernel)]; kernel_rfl) | (rw [if_neg (by decide +kernel)]; exact ⟨rfl, rfl⟩)) stops.symm rfl stopKnobs.symm (by kernel_rfl)
    (by kernel_rfl) (by kernel_rfl) (by kernel_rfl) (by kernel_rfl) (by kernel_rfl) (by kernel_rfl) (by kernel_rfl) (by kernel_rfl) (by kernel_rfl) rfl (by kernel_rfl) rfl rfl
    rfl rfl
    rfl (by kernel_rfl) (by kernel_rfl) (by kernel_rfl) (by decide) (by kernel_rfl)
    (OpenClaim.moreEntering_of (by kernel_rfl) (by kernel_rfl) (by kernel_rfl) (by kernel_rfl) (by kernel_rfl) (by kernel_rfl) (by kernel_rfl) (by kernel_rfl) (by kernel_rfl) (by kernel_rfl))
    ⟨_, WideRow.started_initial, quiet _⟩
    (fun os started _ H enc _ => lifted os started H enc)
#print axioms proved
end Go.Proofs.YtgggpdkljkbmkaaFmt.fnBinAritDivisionOrderPowerLaws
