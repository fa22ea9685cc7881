/-
  For every text pat and all modes m1 and m2, FnHasMetaMatchesEscapeRunModel returns true. No conditions.
  The frame round the walk was written by the kit's proof-skeleton.
-/
import Derived.Test.YtkhcdanjoaagbaaRows
import Derived.WalkKit
import Derived.ProofKit
import Derived.OpenShut
import Derived.Test.YtkhcdanjoaagbaaMeta
import Derived.ShutString
namespace Go.Proofs.Ytkhcdanjoaagbaa.fnHasMetaMatchesEscapeRunModel
open Go.ChangeShapes Go.WideShapes Go.ChangeAt Go.RowKit
open Go.ChangeMaps (open_string shut_string)
set_option linter.unusedVariables false

open Go.Proofs.Ytkhcdanjoaagbaa.plain
open Go.Proofs.Ytkhcdanjoaagbaa.metas

theorem own : ownKnob Try.prog.godebug = none := by kernel_rfl

/-! ### The walk -/
def runRel (s : ByteArray) (k : Nat) (p o : Bool) : Prop := runGo (s.data.toList.drop k) p o = runGo s.data.toList false false
set_option maxHeartbeats 1000000 in
theorem model_any (s : ByteArray) (w : World) (hs : s.size ≤ 1099511627776) :
    Calls Try.prog 18 #[.string s] w fun e w' => e = .returned (.bool (runGo s.data.toList false false)) ∧ w = w' := by
  go_enter Try.func18, Try.ntmps18
  go_wp2
  go_loop [3, 4, 5] (fun x z y => ∃ (k r : Nat) (o : Bool), k ≤ s.size ∧ r ≤ k ∧ x = .int .i64 r ∧ z = .bool o ∧ y = .int .i64 k ∧ runRel s k (decide (r % 2 = 1)) o) (fun _ _ y => s.size - (intOf y).toNat)
  case atStart => exact ⟨0, 0, false, by omega, by omega, rfl, rfl, rfl, rfl⟩
  case round =>
    obtain ⟨k, r, o, hk, hrk, rfl, rfl, rfl, hr⟩ := hrel
    have HR := Lib.hid hr
    clear hr
    by_cases hlt : k < s.size
    · have HD := Lib.hid (drop_cons s k hlt)
      by_cases hp : r % 2 = 1
      · have hp' : ((r : Int) % 2 == 1) = true := by simp; omega
        have HN := Lib.hid (show runRel s (k + 1) false o by have h := HR.out; unfold runRel at h ⊢; rw [HD.out, decide_eq_true hp, run_skip] at h; exact h)
        have HP := Lib.hid hp
        clear hp
        by_cases c1 : s[k] = 92
        · have e1 : ((s[k].toNat : Int) == 92) = true := byte_eq (n := 92) (by omega) c1
          clear c1
          go_wp2
          go_round
          case rel => exact ⟨k + 1, r + 1, o, by omega, by omega, by go_num, rfl, by go_num, by rw [decide_eq_false (by have := HP.out; omega)]; exact HN.out⟩
          case measure => simp [intOf]; omega
        · have e1 : ((s[k].toNat : Int) == 92) = false := byte_ne (n := 92) (by omega) c1
          clear c1
          go_wp2
          go_round
          case rel => exact ⟨k + 1, 0, o, by omega, by omega, rfl, rfl, by go_num, HN.out⟩
          case measure => simp [intOf]; omega
      · have hp' : ((r : Int) % 2 == 1) = false := by simp; omega
        have HS := Lib.hid (show runRel s k false o by have h := HR.out; rw [decide_eq_false hp] at h; exact h)
        have HP := Lib.hid hp
        clear hp
        by_cases c1 : s[k] = 92
        · have e1 : ((s[k].toNat : Int) == 92) = true := byte_eq (n := 92) (by omega) c1
          have HN := Lib.hid (show runRel s (k + 1) true o by have h := HS.out; unfold runRel at h ⊢; rw [HD.out, c1, run_odd] at h; exact h)
          have e2 : ((s[k].toNat : Int) == 42) = false := byte_ne (n := 42) (by omega) (by rw [c1]; decide)
          have e3 : ((s[k].toNat : Int) == 63) = false := byte_ne (n := 63) (by omega) (by rw [c1]; decide)
          have e4 : ((s[k].toNat : Int) == 91) = false := byte_ne (n := 91) (by omega) (by rw [c1]; decide)
          have e5 : ((s[k].toNat : Int) == 93) = false := byte_ne (n := 93) (by omega) (by rw [c1]; decide)
          clear c1
          go_wp2
          go_round
          case rel => exact ⟨k + 1, r + 1, o, by omega, by omega, by go_num, rfl, by go_num, by rw [decide_eq_true (by have := HP.out; omega)]; exact HN.out⟩
          case measure => simp [intOf]; omega
        · have e1 : ((s[k].toNat : Int) == 92) = false := byte_ne (n := 92) (by omega) c1
          by_cases c2 : s[k] = 42
          · have e2 : ((s[k].toNat : Int) == 42) = true := byte_eq (n := 42) (by omega) c2
            have HN := Lib.hid (show true = runGo s.data.toList false false by have h := HS.out; unfold runRel at h; rw [HD.out, run_star _ _ _ (.inl c2)] at h; exact h)
            clear c1 c2
            go_wp2
            go_ret
            exact ⟨ret_bool HN.out, rfl⟩
          · have e2 : ((s[k].toNat : Int) == 42) = false := byte_ne (n := 42) (by omega) c2
            by_cases c3 : s[k] = 63
            · have e3 : ((s[k].toNat : Int) == 63) = true := byte_eq (n := 63) (by omega) c3
              have HN := Lib.hid (show true = runGo s.data.toList false false by have h := HS.out; unfold runRel at h; rw [HD.out, run_star _ _ _ (.inr c3)] at h; exact h)
              clear c1 c2 c3
              go_wp2
              go_ret
              exact ⟨ret_bool HN.out, rfl⟩
            · have e3 : ((s[k].toNat : Int) == 63) = false := byte_ne (n := 63) (by omega) c3
              by_cases c4 : s[k] = 91
              · have e4 : ((s[k].toNat : Int) == 91) = true := byte_eq (n := 91) (by omega) c4
                have e5 : ((s[k].toNat : Int) == 93) = false := byte_ne (n := 93) (by omega) (by rw [c4]; decide)
                have HN := Lib.hid (show runRel s (k + 1) false true by have h := HS.out; unfold runRel at h ⊢; rw [HD.out, c4, run_open] at h; exact h)
                clear c1 c2 c3 c4
                go_wp2
                go_round
                case rel => exact ⟨k + 1, 0, true, by omega, by omega, rfl, rfl, by go_num, HN.out⟩
                case measure => simp [intOf]; omega
              · have e4 : ((s[k].toNat : Int) == 91) = false := byte_ne (n := 91) (by omega) c4
                by_cases c5 : s[k] = 93
                · have e5 : ((s[k].toNat : Int) == 93) = true := byte_eq (n := 93) (by omega) c5
                  cases o
                  · have HN := Lib.hid (show runRel s (k + 1) false false by have h := HS.out; unfold runRel at h ⊢; rw [HD.out, c5, run_shut'] at h; exact h)
                    clear c1 c2 c3 c4 c5
                    go_wp2
                    go_round
                    case rel => exact ⟨k + 1, 0, false, by omega, by omega, rfl, rfl, by go_num, HN.out⟩
                    case measure => simp [intOf]; omega
                  · have HN := Lib.hid (show true = runGo s.data.toList false false by have h := HS.out; unfold runRel at h; rw [HD.out, c5, run_shut] at h; exact h)
                    clear c1 c2 c3 c4 c5
                    go_wp2
                    go_ret
                    exact ⟨ret_bool HN.out, rfl⟩
                · have e5 : ((s[k].toNat : Int) == 93) = false := byte_ne (n := 93) (by omega) c5
                  have HN := Lib.hid (show runRel s (k + 1) false o by have h := HS.out; unfold runRel at h ⊢; rw [HD.out, run_other _ _ _ c1 c2 c3 c4 c5] at h; exact h)
                  clear c1 c2 c3 c4 c5
                  go_wp2
                  go_round
                  case rel => exact ⟨k + 1, 0, o, by omega, by omega, rfl, rfl, by go_num, HN.out⟩
                  case measure => simp [intOf]; omega
    · have HN := Lib.hid (show false = runGo s.data.toList false false by have h := HR.out; unfold runRel at h; rw [drop_end s k (by omega), run_nil] at h; exact h)
      go_wp2
      go_ret
      exact ⟨ret_bool HN.out, rfl⟩
theorem walk (a0 : ByteArray) (a1 : Int) (a2 : Int) (w0 : a0.size ≤ maxLen) (w1 : (Lit.int .u64 a1).wf = true) (w2 : (Lit.int .u64 a2).wf = true) (w : World) :
    Calls Try.prog 7 #[.string a0, .int .u64 a1, .int .u64 a2] w fun e w' => e = .returned (.bool true) ∧ Grown w w' := by
  unfold maxLen at w0
  by_cases k1 : a0.size ≤ 1048576
  · by_cases k2 : a0.size ≤ 65536
    · go_enter Try.func7, Try.ntmps7
      go_wp2_with (first | (go_at_call 16; refine (hasMeta_any _ _ _ (by omega)).mono ?_; rintro e w' ⟨rfl, rfl⟩) | (go_at_call 18; refine (model_any _ _ (by omega)).mono ?_; rintro e w' ⟨rfl, rfl⟩) | go_in)
      go_ret
      exact ⟨rfl, Grown.refl _⟩
    · go_enter Try.func7, Try.ntmps7
      go_wp2
      go_ret
      exact ⟨rfl, Grown.refl _⟩
  · go_enter Try.func7, Try.ntmps7
    go_wp2
    go_ret
    exact ⟨rfl, Grown.refl _⟩

/-! ### The row's step (frame) -/
set_option maxRecDepth 100000 in
theorem lifted (os : Os) (started : os.Started) (H : Type) (enc : TypeId × Value → H) :
    ReturnsInHanded {} Try.checked os 7 .any (Rows.fnHasMetaMatchesEscapeRunModelSpec.pre6 enc Try.prog Try.f7 Rows.fnHasMetaMatchesEscapeRunModelRow.domain false) (Rows.fnHasMetaMatchesEscapeRunModelSpec.post enc Try.prog Try.f7 false true false false) := by
  refine returnsInHanded_of_change (C := Try.checked) own started (by kernel_rfl) Try.func7
    (ChangeSpec.witness6 (enc := enc) (C := Try.checked) false ⟨#[], #[.string ByteArray.empty, .int .u64 0, .int .u64 0], []⟩ 8 (by kernel_rfl) (by kernel_rfl) (by kernel_rfl) (by kernel_rfl)) ?_
  intro W base args ds gs before hval0 hW hcnd _
  have hval : ∀ (j : Nat) t v, Try.f7.params[j]? = some t → args[j]? = some v → Value.okWide Try.prog W .any base t v := hval0
  have hW' := hW
  obtain ⟨p, q, hA0, hV, rfl, hfz, hnd⟩ := hW
  have hA : DataW.TrodAll enc Try.prog W 0 (fun _ => true) true Try.f7.params.toList args.toList ds p := hA0
  rw [Try.params7] at hA hval
  obtain ⟨v0, vs0, d0, ds0, p0, q0, hargs, rfl, rfl, h0, r0⟩ := trodAll_cons hA
  obtain ⟨v1, vs1, d1, ds1, p1, q1, rfl, rfl, rfl, h1, r1⟩ := trodAll_cons r0
  obtain ⟨v2, vs2, d2, ds2, p2, q2, rfl, rfl, rfl, h2, r2⟩ := trodAll_cons r1
  obtain ⟨rfl, rfl, rfl⟩ := trodAll_nil r2
  obtain rfl : args = #[v0, v1, v2] := by cases args; simp_all
  obtain ⟨rfl, rfl⟩ := trodVars_none hV
  obtain ⟨a0, rfl, rfl, rfl, w0⟩ := open_string Try.underlying9 (hval 0 9 v0 rfl rfl) h0
  obtain ⟨a1, rfl, rfl, rfl, w1⟩ := open_int Try.underlying33 (hval 1 33 v1 rfl rfl) h1
  obtain ⟨a2, rfl, rfl, rfl, w2⟩ := open_int Try.underlying33 (hval 2 33 v2 rfl rfl) h2
  clear hA0 hval0
  simp only [List.append_nil] at hW'
  refine (walk a0 a1 a2 w0 w1 w2 W).mono fun e W' ⟨he, hg⟩ => ?_
  subst he
  exact ⟨_, rfl, post_of_same (pa := []) (pv := []) hW' (fun _ _ _ => (trodAll_cons_mk (shut_bool Try.underlying4 _) trodAll_mk0)) (fun sp _ => (trodAll_cons_mk (shut_string Try.underlying9 w0) (trodAll_cons_mk (shut_int Try.underlying33 w1) (trodAll_cons_mk (shut_int Try.underlying33 w2) trodAll_mk0)))) (fun _ _ => rfl) rfl
    (hg.frame _) hg.2.1 (ok_one (by kernel_rfl) rfl (okWide_bool_mk Try.underlying4 _))⟩

theorem over : Rows.fnHasMetaMatchesEscapeRunModelRow.holds Try.pinned (OpenSpec.ofChange Rows.fnHasMetaMatchesEscapeRunModelSpec) :=
  OpenClaim.holds_of_wide 7 Try.f7 rfl rfl rfl rfl rfl rfl rfl ⟨rfl, rfl, rfl, rfl, rfl⟩ rfl rfl rfl rfl rfl (by kernel_rfl) Try.func7 (by kernel_rfl)
    (of_decide_eq_true (by kernel_rfl)) (by unfold Func.isWrapper; first | (rw [if_pos (by decide +kernel)]; kernel_rfl) | (rw [if_neg (by decide +kernel)]; exact ⟨rfl, rfl⟩))
    (fun os started H enc _ => lifted os started H enc)

/-- The statement. -/
theorem proved : Rows.FnHasMetaMatchesEscapeRunModelSaid :=
  over
#print axioms proved
end Go.Proofs.Ytkhcdanjoaagbaa.fnHasMetaMatchesEscapeRunModel
