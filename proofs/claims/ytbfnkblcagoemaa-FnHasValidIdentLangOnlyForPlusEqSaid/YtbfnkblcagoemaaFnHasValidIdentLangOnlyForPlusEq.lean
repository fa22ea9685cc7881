/-
  For all its arguments, FnHasValidIdentLangOnlyForPlusEq returns true. No conditions.
  The frame round the walk was written by the kit's proof-skeleton.
-/
import Derived.Test.YtbfnkblcagoemaaRows
import Derived.WalkKit
import Derived.ProofKit
import Derived.OpenShut
import Derived.Test.YtbfnkblcagoemaaIdent
import Derived.Outline
import Derived.ShutString
import Derived.ChangeOld
import Derived.Below
namespace Go.Proofs.Ytbfnkblcagoemaa.fnHasValidIdentLangOnlyForPlusEq
open Go.ChangeShapes Go.WideShapes Go.ChangeAt Go.RowKit
open Go.ChangeMaps (open_string shut_string)
set_option linter.unusedVariables false

open Go.Proofs.Ytbfnkblcagoemaa.own
open Go.Proofs.Ytbfnkblcagoemaa.names
open Go.Proofs.Ytbfnkblcagoemaa.posn
open Go.Proofs.Ytbfnkblcagoemaa.ident

theorem own : ownKnob Try.prog.godebug = none := by kernel_rfl
theorem laidOut : laidOutB Try.prog = true := by kernel_rfl

/-- WHAT THE WALK IS TOLD OF A SLICE OF INTEGERS THAT CAME IN: it is nil; or it leads to a row of 'cap' cells, the numbers 'zs' (the first 'len' are its elements, the rest its spare room), each fitting its kind. -/
def IsRow (k : IntKind) (w : World) (a : Option Addr) (len cap : Nat) (zs : List Int) : Prop :=
  (a = none ∧ len = 0 ∧ cap = 0 ∧ zs = []) ∨
  ∃ x, a = some x ∧ len ≤ cap ∧ cap ≤ maxLen ∧ zs.length = cap ∧ (∀ i, i < zs.length → w.cell? (x.add i) = some (.int k (zs.getD i 0))) ∧ ∀ n ∈ zs, (Lit.int k n).wf = true

/-! ### The walk -/
def OkB (s : ByteArray) (eq : Int) : Bool := if eq < 0 then false else if 1048576 < eq then false else if eq = 0 then true else if (s.size : Int) ≤ eq then false else (s.data[eq.toNat]?.getD 0) == 61
theorem byte_at (s : ByteArray) (m : Nat) (h : m < s.size) : s.data[m]?.getD 0 = s[m] := by
  have : m < s.data.size := h
  rw [Array.getElem?_eq_getElem this]; rfl
theorem byte_eq (c : UInt8) (k : UInt8) : (((c.toNat : Int)) == (k.toNat : Int)) = (c == k) := by
  rw [Bool.eq_iff_iff, beq_iff_eq, beq_iff_eq]
  constructor
  · intro h2; exact UInt8.toNat_inj.mp (by omega)
  · intro h; rw [h]
theorem stateOK_any (s : ByteArray) (eq : Int) (w : World) (hs : s.size ≤ 1048576) : Calls Try.prog 23 #[.string s, .int .i64 eq] w fun e w' => e = .returned (.bool (OkB s eq)) ∧ w = w' := by
  by_cases h1 : eq < 0
  · rw [show OkB s eq = false by unfold OkB; rw [if_pos h1]]
    go_enter Try.func23, Try.ntmps23; go_wp2; go_ret; exact ⟨rfl, rfl⟩
  by_cases h2 : 1048576 < eq
  · rw [show OkB s eq = false by unfold OkB; rw [if_neg h1, if_pos h2]]
    go_enter Try.func23, Try.ntmps23; go_wp2; go_ret; exact ⟨rfl, rfl⟩
  by_cases h3 : eq = 0
  · rw [show OkB s eq = true by unfold OkB; rw [if_neg h1, if_neg h2, if_pos h3]]
    subst h3
    go_enter Try.func23, Try.ntmps23; go_wp2; go_ret; exact ⟨rfl, rfl⟩
  by_cases h4 : (s.size : Int) ≤ eq
  · rw [show OkB s eq = false by unfold OkB; rw [if_neg h1, if_neg h2, if_neg h3, if_pos h4]]
    go_enter Try.func23, Try.ntmps23; go_wp2; go_ret; exact ⟨rfl, rfl⟩
  obtain ⟨n, rfl⟩ := Int.eq_ofNat_of_zero_le (show 0 ≤ eq by omega)
  have hn : n < s.size := by omega
  have e : OkB s n = ((s[n].toNat : Int) == 61) := by
    unfold OkB; rw [if_neg h1, if_neg h2, if_neg h3, if_neg h4, Int.toNat_natCast, byte_at s n hn, ← byte_eq]; rfl
  rw [e]
  clear e
  cases hc : ((s[n].toNat : Int) == 61)
  · have hc' : ((s[n].toNat : Int) != 61) = true := by simp [bne, hc]
    go_enter Try.func23, Try.ntmps23; go_wp2; go_ret; exact ⟨rfl, rfl⟩
  · have hc' : ((s[n].toNat : Int) != 61) = false := by simp [bne, hc]
    go_enter Try.func23, Try.ntmps23; go_wp2; go_ret; exact ⟨rfl, rfl⟩
theorem ok_facts {s : ByteArray} {eq : Int} (h : OkB s eq = true) : ∃ n : Nat, eq = n ∧ (0 < n → n < s.size) := by
  unfold OkB at h
  by_cases h1 : eq < 0
  · rw [if_pos h1] at h; cases h
  rw [if_neg h1] at h
  by_cases h2 : 1048576 < eq
  · rw [if_pos h2] at h; cases h
  rw [if_neg h2] at h
  by_cases h3 : eq = 0
  · exact ⟨0, h3, by omega⟩
  rw [if_neg h3] at h
  by_cases h4 : (s.size : Int) ≤ eq
  · rw [if_pos h4] at h; cases h
  exact ⟨eq.toNat, by omega, by omega⟩
set_option maxHeartbeats 2000000 in
theorem main0 (tok : Int) (s : ByteArray) (r : Int) (B P : Bool) (w : World) (hs : s.size ≤ 1048576) (hok : OkB s ((0 : Nat) : Int) = true) (hm : 0 < 0 → 0 < s.size) (hB : identB tok s ((0 : Nat) : Int) r true = B) (hP : identB tok s ((0 : Nat) : Int) r false = P) (hE : P = B) :
    Calls Try.prog 5 #[.int .u32 tok, .string s, .int .i64 ((0 : Nat) : Int), .int .i32 r] w fun e w' => e = .returned (.bool true) ∧ Below w.heap.size w w' := by
  have HB := Lib.hid hB
  have HP := Lib.hid hP
  have HO := Lib.hid hok
  have HM := Lib.hid hm
  clear hB hP hok hm
  cases B <;> cases P
  any_goals (first | (cases hE; done) | (cases hE rfl; done))
  all_goals
    clear hE
    go_enter Try.func5, Try.ntmps5
    go_wp2_with (first | (go_at_call 22; go_in) | (go_at_call 23; refine (stateOK_any _ _ _ hs).mono ?_; (try rw [HO.out]); rintro e w' ⟨rfl, rfl⟩) | fail)
    refine (newState _ _ _ _ _ _).mono ?_
    rintro e x0 ⟨rfl, h, g, l⟩
    have HS0 := Lib.hid h
    have A0 := Lib.hid g
    clear h g l
    go_wp2_with fail
    refine (zhvi _ _ _ 0 _ _ true _ HS0.out hs HM.out in1 _ HB.out).mono ?_
    rintro e y0 ⟨rfl, g⟩
    have C0 := Lib.hid (A0.out.trans (g.mono A0.out.size))
    clear g HS0 A0
    go_wp2_with fail
    refine (newState _ _ _ _ _ _).mono ?_
    rintro e x1 ⟨rfl, h, g, l⟩
    have HS1 := Lib.hid h
    have A1 := Lib.hid (C0.out.trans (g.mono C0.out.size))
    clear h g l
    go_wp2_with fail
    refine (zhvi _ _ _ 0 _ _ false _ HS1.out hs HM.out in2 _ HP.out).mono ?_
    rintro e y1 ⟨rfl, g⟩
    have C1 := Lib.hid (A1.out.trans (g.mono A1.out.size))
    clear g HS1 A1 C0
    go_wp2_with fail
    refine (newState _ _ _ _ _ _).mono ?_
    rintro e x2 ⟨rfl, h, g, l⟩
    have HS2 := Lib.hid h
    have A2 := Lib.hid (C1.out.trans (g.mono C1.out.size))
    clear h g l
    go_wp2_with fail
    refine (zhvi _ _ _ 0 _ _ true _ HS2.out hs HM.out in4 _ HB.out).mono ?_
    rintro e y2 ⟨rfl, g⟩
    have C2 := Lib.hid (A2.out.trans (g.mono A2.out.size))
    clear g HS2 A2 C1
    go_wp2_with fail
    refine (newState _ _ _ _ _ _).mono ?_
    rintro e x3 ⟨rfl, h, g, l⟩
    have HS3 := Lib.hid h
    have A3 := Lib.hid (C2.out.trans (g.mono C2.out.size))
    clear h g l
    go_wp2_with fail
    refine (zhvi _ _ _ 0 _ _ true _ HS3.out hs HM.out in8 _ HB.out).mono ?_
    rintro e y3 ⟨rfl, g⟩
    have C3 := Lib.hid (A3.out.trans (g.mono A3.out.size))
    clear g HS3 A3 C2
    go_wp2_with fail
    refine (newState _ _ _ _ _ _).mono ?_
    rintro e x4 ⟨rfl, h, g, l⟩
    have HS4 := Lib.hid h
    have A4 := Lib.hid (C3.out.trans (g.mono C3.out.size))
    clear h g l
    go_wp2_with fail
    refine (zhvi _ _ _ 0 _ _ true _ HS4.out hs HM.out in16 _ HB.out).mono ?_
    rintro e y4 ⟨rfl, g⟩
    have C4 := Lib.hid (A4.out.trans (g.mono A4.out.size))
    clear g HS4 A4 C3
    go_wp2_with fail
    go_ret
    exact ⟨rfl, C4.out⟩
set_option maxHeartbeats 2000000 in
theorem main1 (tok : Int) (s : ByteArray) (m : Nat) (r : Int) (B P : Bool) (w : World) (hs : s.size ≤ 1048576) (hok : OkB s ((m + 1 : Nat) : Int) = true) (hm : 0 < m + 1 → m + 1 < s.size) (hB : identB tok s ((m + 1 : Nat) : Int) r true = B) (hP : identB tok s ((m + 1 : Nat) : Int) r false = P) (hlt : m < s.size) (hc : ((s[m].toNat : Int) == 43) = false) (hE : P = B) :
    Calls Try.prog 5 #[.int .u32 tok, .string s, .int .i64 ((m + 1 : Nat) : Int), .int .i32 r] w fun e w' => e = .returned (.bool true) ∧ Below w.heap.size w w' := by
  have HB := Lib.hid hB
  have HP := Lib.hid hP
  have HO := Lib.hid hok
  have HM := Lib.hid hm
  clear hB hP hok hm
  cases B <;> cases P
  any_goals (first | (cases hE; done) | (cases hE rfl; done))
  all_goals
    clear hE
    go_enter Try.func5, Try.ntmps5
    go_wp2_with (first | (go_at_call 22; go_in) | (go_at_call 23; refine (stateOK_any _ _ _ hs).mono ?_; rw [show OkB s ((m : Int) + 1) = true from HO.out]; rintro e w' ⟨rfl, rfl⟩) | fail)
    refine (newState _ _ _ _ _ _).mono ?_
    rintro e x0 ⟨rfl, h, g, l⟩
    have HS0 := Lib.hid h
    have A0 := Lib.hid g
    clear h g l
    go_wp2_with fail
    refine (zhvi _ _ _ (m + 1) _ _ true _ HS0.out hs HM.out in1 _ HB.out).mono ?_
    rintro e y0 ⟨rfl, g⟩
    have C0 := Lib.hid (A0.out.trans (g.mono A0.out.size))
    clear g HS0 A0
    go_wp2_with fail
    refine (newState _ _ _ _ _ _).mono ?_
    rintro e x1 ⟨rfl, h, g, l⟩
    have HS1 := Lib.hid h
    have A1 := Lib.hid (C0.out.trans (g.mono C0.out.size))
    clear h g l
    go_wp2_with fail
    refine (zhvi _ _ _ (m + 1) _ _ false _ HS1.out hs HM.out in2 _ HP.out).mono ?_
    rintro e y1 ⟨rfl, g⟩
    have C1 := Lib.hid (A1.out.trans (g.mono A1.out.size))
    clear g HS1 A1 C0
    go_wp2_with fail
    refine (newState _ _ _ _ _ _).mono ?_
    rintro e x2 ⟨rfl, h, g, l⟩
    have HS2 := Lib.hid h
    have A2 := Lib.hid (C1.out.trans (g.mono C1.out.size))
    clear h g l
    go_wp2_with fail
    refine (zhvi _ _ _ (m + 1) _ _ true _ HS2.out hs HM.out in4 _ HB.out).mono ?_
    rintro e y2 ⟨rfl, g⟩
    have C2 := Lib.hid (A2.out.trans (g.mono A2.out.size))
    clear g HS2 A2 C1
    go_wp2_with fail
    refine (newState _ _ _ _ _ _).mono ?_
    rintro e x3 ⟨rfl, h, g, l⟩
    have HS3 := Lib.hid h
    have A3 := Lib.hid (C2.out.trans (g.mono C2.out.size))
    clear h g l
    go_wp2_with fail
    refine (zhvi _ _ _ (m + 1) _ _ true _ HS3.out hs HM.out in8 _ HB.out).mono ?_
    rintro e y3 ⟨rfl, g⟩
    have C3 := Lib.hid (A3.out.trans (g.mono A3.out.size))
    clear g HS3 A3 C2
    go_wp2_with fail
    refine (newState _ _ _ _ _ _).mono ?_
    rintro e x4 ⟨rfl, h, g, l⟩
    have HS4 := Lib.hid h
    have A4 := Lib.hid (C3.out.trans (g.mono C3.out.size))
    clear h g l
    go_wp2_with fail
    refine (zhvi _ _ _ (m + 1) _ _ true _ HS4.out hs HM.out in16 _ HB.out).mono ?_
    rintro e y4 ⟨rfl, g⟩
    have C4 := Lib.hid (A4.out.trans (g.mono A4.out.size))
    clear g HS4 A4 C3
    go_wp2_with fail
    go_ret
    exact ⟨rfl, C4.out⟩
set_option maxHeartbeats 2000000 in
theorem main2 (tok : Int) (s : ByteArray) (m : Nat) (r : Int) (B P : Bool) (w : World) (hs : s.size ≤ 1048576) (hok : OkB s ((m + 1 : Nat) : Int) = true) (hm : 0 < m + 1 → m + 1 < s.size) (hB : identB tok s ((m + 1 : Nat) : Int) r true = B) (hP : identB tok s ((m + 1 : Nat) : Int) r false = P) (hlt : m < s.size) (hc : ((s[m].toNat : Int) == 43) = true) (hE : P = true → B = true) :
    Calls Try.prog 5 #[.int .u32 tok, .string s, .int .i64 ((m + 1 : Nat) : Int), .int .i32 r] w fun e w' => e = .returned (.bool true) ∧ Below w.heap.size w w' := by
  have HB := Lib.hid hB
  have HP := Lib.hid hP
  have HO := Lib.hid hok
  have HM := Lib.hid hm
  clear hB hP hok hm
  cases B <;> cases P
  any_goals (first | (cases hE; done) | (cases hE rfl; done))
  all_goals
    clear hE
    go_enter Try.func5, Try.ntmps5
    go_wp2_with (first | (go_at_call 22; go_in) | (go_at_call 23; refine (stateOK_any _ _ _ hs).mono ?_; rw [show OkB s ((m : Int) + 1) = true from HO.out]; rintro e w' ⟨rfl, rfl⟩) | fail)
    refine (newState _ _ _ _ _ _).mono ?_
    rintro e x0 ⟨rfl, h, g, l⟩
    have HS0 := Lib.hid h
    have A0 := Lib.hid g
    clear h g l
    go_wp2_with fail
    refine (zhvi _ _ _ (m + 1) _ _ true _ HS0.out hs HM.out in1 _ HB.out).mono ?_
    rintro e y0 ⟨rfl, g⟩
    have C0 := Lib.hid (A0.out.trans (g.mono A0.out.size))
    clear g HS0 A0
    go_wp2_with fail
    refine (newState _ _ _ _ _ _).mono ?_
    rintro e x1 ⟨rfl, h, g, l⟩
    have HS1 := Lib.hid h
    have A1 := Lib.hid (C0.out.trans (g.mono C0.out.size))
    clear h g l
    go_wp2_with fail
    refine (zhvi _ _ _ (m + 1) _ _ false _ HS1.out hs HM.out in2 _ HP.out).mono ?_
    rintro e y1 ⟨rfl, g⟩
    have C1 := Lib.hid (A1.out.trans (g.mono A1.out.size))
    clear g HS1 A1 C0
    go_wp2_with fail
    refine (newState _ _ _ _ _ _).mono ?_
    rintro e x2 ⟨rfl, h, g, l⟩
    have HS2 := Lib.hid h
    have A2 := Lib.hid (C1.out.trans (g.mono C1.out.size))
    clear h g l
    go_wp2_with fail
    refine (zhvi _ _ _ (m + 1) _ _ true _ HS2.out hs HM.out in4 _ HB.out).mono ?_
    rintro e y2 ⟨rfl, g⟩
    have C2 := Lib.hid (A2.out.trans (g.mono A2.out.size))
    clear g HS2 A2 C1
    go_wp2_with fail
    refine (newState _ _ _ _ _ _).mono ?_
    rintro e x3 ⟨rfl, h, g, l⟩
    have HS3 := Lib.hid h
    have A3 := Lib.hid (C2.out.trans (g.mono C2.out.size))
    clear h g l
    go_wp2_with fail
    refine (zhvi _ _ _ (m + 1) _ _ true _ HS3.out hs HM.out in8 _ HB.out).mono ?_
    rintro e y3 ⟨rfl, g⟩
    have C3 := Lib.hid (A3.out.trans (g.mono A3.out.size))
    clear g HS3 A3 C2
    go_wp2_with fail
    refine (newState _ _ _ _ _ _).mono ?_
    rintro e x4 ⟨rfl, h, g, l⟩
    have HS4 := Lib.hid h
    have A4 := Lib.hid (C3.out.trans (g.mono C3.out.size))
    clear h g l
    go_wp2_with fail
    refine (zhvi _ _ _ (m + 1) _ _ true _ HS4.out hs HM.out in16 _ HB.out).mono ?_
    rintro e y4 ⟨rfl, g⟩
    have C4 := Lib.hid (A4.out.trans (g.mono A4.out.size))
    clear g HS4 A4 C3
    go_wp2_with fail
    go_ret
    exact ⟨rfl, C4.out⟩
theorem walk (a0 : Int) (a1 : ByteArray) (a2 : Int) (a3 : Int) (w : World) (w0 : (Lit.int .u32 a0).wf = true) (w1 : a1.size ≤ maxLen) (w2 : (Lit.int .i64 a2).wf = true) (w3 : (Lit.int .i32 a3).wf = true) :
    Calls Try.prog 5 #[.int .u32 a0, .string a1, .int .i64 a2, .int .i32 a3] w fun e w' => e = .returned (.bool true) ∧ Below w.heap.size w w' := by
  clear w0 w1 w2 w3
  by_cases hs : a1.size ≤ 1048576
  · cases hok : OkB a1 a2
    · have HO := Lib.hid hok
      clear hok
      go_enter Try.func5, Try.ntmps5
      go_wp2_with (first | (go_at_call 22; go_in) | (go_at_call 23; refine (stateOK_any _ _ _ hs).mono ?_; rw [HO.out]; rintro e w' ⟨rfl, rfl⟩) | fail)
      go_ret
      exact ⟨rfl, Below.refl _ _⟩
    · obtain ⟨n, rfl, hm⟩ := ok_facts hok
      cases n with
      | zero => exact main0 a0 a1 a3 _ _ w hs hok hm rfl rfl (law_eq _ _ _ _ hm (fun m h => by cases h))
      | succ m =>
        have hlt : m < a1.size := by have := hm (by omega); omega
        cases hc : ((a1[m].toNat : Int) == 43)
        · exact main1 a0 a1 m a3 _ _ w hs hok hm rfl rfl hlt hc (law_eq _ _ _ _ hm (fun k h hk => by cases h; exact hc))
        · exact main2 a0 a1 m a3 _ _ w hs hok hm rfl rfl hlt hc (law_plus _ _ _ _ hlt hc)
  · go_enter Try.func5, Try.ntmps5
    go_wp2_with (first | (go_at_call 22; go_in))
    go_ret
    exact ⟨rfl, Below.refl _ _⟩

/-! ### The row's step (frame) -/
set_option maxRecDepth 100000 in
theorem lifted (os : Os) (started : os.Started) (H : Type) (enc : TypeId × Value → H) :
    ReturnsInHanded {} Try.checked os 5 .any (Rows.fnHasValidIdentLangOnlyForPlusEqSpec.pre6 enc Try.prog Try.f5 Rows.fnHasValidIdentLangOnlyForPlusEqRow.domain false) (Rows.fnHasValidIdentLangOnlyForPlusEqSpec.post enc Try.prog Try.f5 false true false false) := by
  refine returnsInHanded_of_change (C := Try.checked) own started (by kernel_rfl) Try.func5
    (ChangeSpec.witness6 (enc := enc) (C := Try.checked) false ⟨#[], #[.int .u32 0, .string ByteArray.empty, .int .i64 0, .int .i32 0], []⟩ 8 (by kernel_rfl) (by kernel_rfl) (by kernel_rfl) (by kernel_rfl)) ?_
  intro W base args ds gs before hval0 hW hcnd _
  have hval : ∀ (j : Nat) t v, Try.f5.params[j]? = some t → args[j]? = some v → Value.okWide Try.prog W .any base t v := hval0
  have hW' := hW
  obtain ⟨p, q, hA0, hV, rfl, hfz, hnd⟩ := hW
  have hA : DataW.TrodAll enc Try.prog W 0 (fun _ => true) true Try.f5.params.toList args.toList ds p := hA0
  rw [Try.params5] at hA hval
  obtain ⟨v0, vs0, d0, ds0, p0, q0, hargs, rfl, rfl, h0, r0⟩ := trodAll_cons hA
  obtain ⟨v1, vs1, d1, ds1, p1, q1, rfl, rfl, rfl, h1, r1⟩ := trodAll_cons r0
  obtain ⟨v2, vs2, d2, ds2, p2, q2, rfl, rfl, rfl, h2, r2⟩ := trodAll_cons r1
  obtain ⟨v3, vs3, d3, ds3, p3, q3, rfl, rfl, rfl, h3, r3⟩ := trodAll_cons r2
  obtain ⟨rfl, rfl, rfl⟩ := trodAll_nil r3
  obtain rfl : args = #[v0, v1, v2, v3] := by cases args; simp_all
  obtain ⟨rfl, rfl⟩ := trodVars_none hV
  obtain ⟨a0, rfl, rfl, rfl, w0⟩ := open_int Try.underlying22 (hval 0 22 v0 rfl rfl) h0
  obtain ⟨a1, rfl, rfl, rfl, w1⟩ := open_string Try.underlying9 (hval 1 9 v1 rfl rfl) h1
  obtain ⟨a2, rfl, rfl, rfl, w2⟩ := open_int Try.underlying3 (hval 2 3 v2 rfl rfl) h2
  obtain ⟨a3, rfl, rfl, rfl, w3⟩ := open_int Try.underlying21 (hval 3 21 v3 rfl rfl) h3
  clear hA0 hval0
  refine (walk a0 a1 a2 a3 W w0 w1 w2 w3).mono fun e W' ⟨he, bel⟩ => ?_
  subst he
  exact ⟨_, rfl, _, _, _, [], _, [], hW', trodAll_mk1 (shut_bool Try.underlying4 _), (trodAll_cons_mk (shut_int Try.underlying22 w0) (trodAll_cons_mk (shut_string Try.underlying9 w1) (trodAll_cons_mk (shut_int Try.underlying3 w2) (trodAll_cons_mk (shut_int Try.underlying21 w3) trodAll_mk0)))), rfl, bel.frame _, fun h => by cases h⟩

theorem over : Rows.fnHasValidIdentLangOnlyForPlusEqRow.holds Try.pinned (OpenSpec.ofChange Rows.fnHasValidIdentLangOnlyForPlusEqSpec) :=
  OpenClaim.holds_of_wide 5 Try.f5 rfl rfl rfl rfl rfl rfl rfl ⟨rfl, rfl, rfl, rfl, rfl⟩ rfl rfl rfl rfl rfl (by kernel_rfl) Try.func5 (by kernel_rfl)
    (of_decide_eq_true (by kernel_rfl)) (by unfold Func.isWrapper; first | (rw [if_pos (by decide +kernel)]; kernel_rfl) | (rw [if_neg (by decide +kernel)]; exact ⟨rfl, rfl⟩))
    (fun os started H enc _ => lifted os started H enc)

/-- The statement. -/
theorem proved : Rows.FnHasValidIdentLangOnlyForPlusEqSaid := over
#print axioms proved
end Go.Proofs.Ytbfnkblcagoemaa.fnHasValidIdentLangOnlyForPlusEq
