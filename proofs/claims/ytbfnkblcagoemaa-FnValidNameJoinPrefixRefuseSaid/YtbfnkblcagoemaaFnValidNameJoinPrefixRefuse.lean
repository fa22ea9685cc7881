/-
  Names join, prefixes of names are names; a digit ahead or a dash behind is refused.
  The frame round the walk was written by the kit's proof-skeleton.
-/
import Derived.Test.YtbfnkblcagoemaaRows
import Derived.WalkKit
import Derived.ProofKit
import Derived.OpenShut
import Derived.Test.YtbfnkblcagoemaaNames
import Derived.Outline
import Derived.Lib.Strings
import Derived.ShutString
import Derived.ChangeOld
import Derived.Below
namespace Go.Proofs.Ytbfnkblcagoemaa.fnValidNameJoinPrefixRefuse
open Go.ChangeShapes Go.WideShapes Go.ChangeAt Go.RowKit
open Go.ChangeMaps (open_string shut_string)
set_option linter.unusedVariables false

open Go.Proofs.Ytbfnkblcagoemaa.own
open Go.Proofs.Ytbfnkblcagoemaa.names

theorem own : ownKnob Try.prog.godebug = none := by kernel_rfl
theorem laidOut : laidOutB Try.prog = true := by kernel_rfl

/-- WHAT THE WALK IS TOLD OF A SLICE OF INTEGERS THAT CAME IN: it is nil; or it leads to a row of 'cap' cells, the numbers 'zs' (the first 'len' are its elements, the rest its spare room), each fitting its kind. -/
def IsRow (k : IntKind) (w : World) (a : Option Addr) (len cap : Nat) (zs : List Int) : Prop :=
  (a = none ∧ len = 0 ∧ cap = 0 ∧ zs = []) ∨
  ∃ x, a = some x ∧ len ≤ cap ∧ cap ≤ maxLen ∧ zs.length = cap ∧ (∀ i, i < zs.length → w.cell? (x.add i) = some (.int k (zs.getD i 0))) ∧ ∀ n ∈ zs, (Lit.int k n).wf = true

/-! ### The walk -/
/-! ### plain -/
theorem start_rest {c : UInt8} (h : startB c = true) : restB c = true := by simp [restB, h]
theorem name_cons {l : List UInt8} (h : nameB l = true) : ∃ c r, l = c :: r ∧ startB c = true ∧ r.all restB = true := by
  cases l with
  | nil => cases h
  | cons c r => simp only [nameB, Bool.and_eq_true] at h; exact ⟨c, r, rfl, h.1, h.2⟩
theorem name_join {l r : List UInt8} (h1 : nameB l = true) (h2 : nameB r = true) : nameB (l ++ r) = true := by
  obtain ⟨c, l', rfl, a1, a2⟩ := name_cons h1
  obtain ⟨d, r', rfl, b1, b2⟩ := name_cons h2
  simp only [List.cons_append, nameB, a1, Bool.true_and, List.all_append, a2, List.all_cons, start_rest b1, b2]
theorem name_digit {c : UInt8} {l : List UInt8} (h1 : 48 ≤ c.toNat) (h2 : c.toNat ≤ 57) : nameB (c :: l) = false := by
  have : startB c = false := by simp [startB]; omega
  simp [nameB, this]
theorem name_dash {l : List UInt8} (h1 : nameB l = true) : nameB (l ++ [45]) = false := by
  obtain ⟨c, l', rfl, a1, a2⟩ := name_cons h1
  have : restB 45 = false := by decide
  simp [nameB, this]
theorem name_take {l : List UInt8} {k : Nat} (h1 : nameB l = true) (hk : 1 ≤ k) : nameB (l.take k) = true := by
  obtain ⟨c, l', rfl, a1, a2⟩ := name_cons h1
  obtain ⟨k, rfl⟩ : ∃ j, k = j + 1 := ⟨k - 1, by omega⟩
  simp only [List.take_succ_cons, nameB, a1, Bool.true_and]
  rw [List.all_eq_true] at a2 ⊢
  exact fun x hx => a2 x (List.mem_of_mem_take hx)
/-! ### the walk -/
theorem vn_is (s : ByteArray) (w : World) (v : Bool) (hs : s.size ≤ 1099511627776) (hv : nameB s.data.toList = v) :
    Calls Try.prog 30 #[.string s] w fun e w' => e = .returned (.bool v) ∧ Below w.heap.size w w' := by
  rw [← hv]; exact validName_any s w hs
theorem one_byte (wr : World) (c : UInt8) : Sem.run Try.prog (convert 23 9 (.slice (some ⟨wr.heap.size, 0, none⟩) 1 1)) (wr.alloc (.cells #[.int .u8 (c.toNat : Int)] 5)) = .ok (.string ⟨#[c]⟩) (wr.alloc (.cells #[.int .u8 (c.toNat : Int)] 5)) := by
  refine run_convert_bytes_back (P := Try.prog) _ 23 9 5 ⟨wr.heap.size, 0, none⟩ 1 [c] Try.underlying23 Try.underlying5 Try.underlying9 ?_
  intro j hj
  have : j = 0 := by simpa using hj
  subst this
  simp [Addr.add]
theorem size_app (a b : ByteArray) : (a ++ b).size = a.size + b.size := ByteArray.size_append
theorem data_app (a b : ByteArray) : (a ++ b).data.toList = a.data.toList ++ b.data.toList := by rw [ByteArray.data_append]; simp
set_option maxHeartbeats 2000000 in
theorem main (a b : ByteArray) (k : Int) (w : World) (ha : a.size ≤ 524288) (hb : b.size ≤ 524288) (h1 : nameB a.data.toList = true) (h2 : nameB b.data.toList = true) :
    Calls Try.prog 7 #[.string a, .string b, .int .i64 k] w fun e w' => e = .returned (.bool true) ∧ Below w.heap.size w w' := by
  have H1 := Lib.hid h1
  have H2 := Lib.hid h2
  have hk : (k < 1 ∨ (a.size : Int) < k) ∨ ∃ n : Nat, k = n ∧ 1 ≤ n ∧ n ≤ a.size := by
    by_cases c : k < 1 ∨ (a.size : Int) < k
    · exact .inl c
    · exact .inr ⟨k.toNat, by omega, by omega, by omega⟩
  clear h1 h2
  go_enter Try.func7, Try.ntmps7
  go_wp2_with (first | (go_at_call 29; go_in))
  refine (vn_is _ _ true (by omega) H1.out).mono ?_
  rintro e w1 ⟨rfl, g1⟩
  have B1 := Lib.hid g1
  clear g1
  go_wp2_with fail
  refine (vn_is _ _ true (by omega) H2.out).mono ?_
  rintro e w2 ⟨rfl, g2⟩
  have B2 := Lib.hid (B1.out.trans (g2.mono B1.out.size))
  clear g2 B1
  go_wp2_with fail
  refine (vn_is _ _ true (by rw [size_app]; omega) (by rw [data_app]; exact name_join H1.out H2.out)).mono ?_
  rintro e w3 ⟨rfl, g3⟩
  have B3 := Lib.hid (B2.out.trans (g3.mono B2.out.size))
  clear g3 B2
  go_wp2_with fail
  go_loopw [7] (fun y wr => ∃ j : Int, 48 ≤ j ∧ j ≤ 58 ∧ y = .int .u8 j ∧ Below w.heap.size w wr) (fun y _ => 58 - (intOf y).toNat)
  case atStart => exact ⟨48, by omega, by omega, rfl, B3.out⟩
  case round =>
    obtain ⟨j, hj0, hj, rfl, hbl⟩ := hrel
    have HB := Lib.hid hbl
    clear hbl B3
    by_cases hlt : j ≤ 57
    · obtain ⟨c, hc⟩ : ∃ c : UInt8, (c.toNat : Int) = j := ⟨UInt8.ofNat j.toNat, by simp; omega⟩
      have hcv := one_byte wr c
      rw [hc] at hcv
      have hc1 : 48 ≤ c.toNat := by omega
      have hc2 : c.toNat ≤ 57 := by omega
      have HC := Lib.hid (And.intro hc1 hc2)
      clear hc hc1 hc2
      go_wp2_with fail
      refine (vn_is _ _ false (by rw [size_app]; have : (⟨#[c]⟩ : ByteArray).size = 1 := rfl; omega) (by rw [data_app]; exact name_digit HC.out.1 HC.out.2)).mono ?_
      rintro e w9 ⟨rfl, g9⟩
      have HN := Lib.hid ((HB.out.alloc HB.out.size _).trans (g9.mono (by have := HB.out.size; simp; omega)))
      clear g9 hcv
      go_wp2_with fail
      go_roundw
      case rel => exact ⟨j + 1, by omega, by omega, by go_num, HN.out⟩
      case measure => simp [intOf]; omega
    · obtain rfl : j = 58 := by omega
      go_wp2_with fail
      refine (vn_is _ _ false (by rw [size_app]; have : (⟨#[45]⟩ : ByteArray).size = 1 := rfl; omega) (by rw [data_app]; exact name_dash H1.out)).mono ?_
      rintro e w8 ⟨rfl, g8⟩
      have HN := Lib.hid (HB.out.trans (g8.mono HB.out.size))
      clear g8
      rcases hk with hk | ⟨n, rfl, n1, n2⟩
      · rcases hk with hk | hk
        all_goals
          go_wp2_with fail
          go_ret
          exact ⟨rfl, HN.out⟩
      · go_wp2_with fail
        refine (vn_is _ _ true (by rw [ByteArray.size_extract]; omega) (by rw [Go.Lib.extract_data]; simp; exact name_take H1.out n1)).mono ?_
        rintro e w7 ⟨rfl, g7⟩
        have HM := Lib.hid (HN.out.trans (g7.mono HN.out.size))
        clear g7
        go_wp2_with fail
        go_ret
        exact ⟨rfl, HM.out⟩
theorem walk (a0 : ByteArray) (a1 : ByteArray) (a2 : Int) (w : World) (w0 : a0.size ≤ maxLen) (w1 : a1.size ≤ maxLen) (w2 : (Lit.int .i64 a2).wf = true) :
    Calls Try.prog 7 #[.string a0, .string a1, .int .i64 a2] w fun e w' => e = .returned (.bool true) ∧ Below w.heap.size w w' := by
  clear w0 w1 w2
  by_cases k1 : a0.size ≤ 1048576
  · by_cases k2 : a1.size ≤ 1048576
    · by_cases k3 : a0.size + a1.size ≤ 1048576
      · by_cases k4 : a0.size ≤ 524288
        · by_cases k5 : a1.size ≤ 524288
          · cases k6 : nameB a0.data.toList
            · have H := Lib.hid k6
              clear k6
              cases k7 : nameB a1.data.toList
              all_goals
                have H2 := Lib.hid k7
                clear k7
                go_enter Try.func7, Try.ntmps7
                go_wp2_with (first | (go_at_call 29; go_in))
                refine (vn_is _ _ false (by omega) H.out).mono ?_
                rintro e w1 ⟨rfl, g1⟩
                have B1 := Lib.hid g1
                clear g1
                go_wp2_with fail
                go_ret
                exact ⟨rfl, B1.out⟩
            · cases k7 : nameB a1.data.toList
              · have H := Lib.hid k6
                clear k6
                have H2 := Lib.hid k7
                clear k7
                go_enter Try.func7, Try.ntmps7
                go_wp2_with (first | (go_at_call 29; go_in))
                refine (vn_is _ _ true (by omega) H.out).mono ?_
                rintro e w1 ⟨rfl, g1⟩
                have B1 := Lib.hid g1
                clear g1
                go_wp2_with fail
                refine (vn_is _ _ false (by omega) H2.out).mono ?_
                rintro e w2 ⟨rfl, g2⟩
                have B2 := Lib.hid (B1.out.trans (g2.mono B1.out.size))
                clear g2 B1
                go_wp2_with fail
                go_ret
                exact ⟨rfl, B2.out⟩
              · exact main a0 a1 a2 w k4 k5 k6 k7
          · go_enter Try.func7, Try.ntmps7
            go_wp2_with (first | (go_at_call 29; go_in))
            go_ret
            exact ⟨rfl, Below.refl _ _⟩
        · go_enter Try.func7, Try.ntmps7
          go_wp2_with (first | (go_at_call 29; go_in))
          go_ret
          exact ⟨rfl, Below.refl _ _⟩
      · go_enter Try.func7, Try.ntmps7
        go_wp2_with (first | (go_at_call 29; go_in))
        go_ret
        exact ⟨rfl, Below.refl _ _⟩
    · go_enter Try.func7, Try.ntmps7
      go_wp2_with (first | (go_at_call 29; go_in))
      go_ret
      exact ⟨rfl, Below.refl _ _⟩
  · go_enter Try.func7, Try.ntmps7
    go_wp2_with (first | (go_at_call 29; go_in))
    go_ret
    exact ⟨rfl, Below.refl _ _⟩

/-! ### The row's step (frame) -/
set_option maxRecDepth 100000 in
theorem lifted (os : Os) (started : os.Started) (H : Type) (enc : TypeId × Value → H) :
    ReturnsInHanded {} Try.checked os 7 .any (Rows.fnValidNameJoinPrefixRefuseSpec.pre6 enc Try.prog Try.f7 Rows.fnValidNameJoinPrefixRefuseRow.domain false) (Rows.fnValidNameJoinPrefixRefuseSpec.post enc Try.prog Try.f7 false true false false) := by
  refine returnsInHanded_of_change (C := Try.checked) own started (by kernel_rfl) Try.func7
    (ChangeSpec.witness6 (enc := enc) (C := Try.checked) false ⟨#[], #[.string ByteArray.empty, .string ByteArray.empty, .int .i64 0], []⟩ 8 (by kernel_rfl) (by kernel_rfl) (by kernel_rfl) (by kernel_rfl)) ?_
  intro W base args ds gs before hval0 hW hcnd _
  have hval : ∀ (j : Nat) t v, Try.f7.params[j]? = some t → args[j]? = some v → Value.okWide Try.prog W .any base t v := hval0
  have hW' := hW
  obtain ⟨p, q, hA0, hV, rfl, hfz, hnd⟩ := hW
  have hA : DataW.TrodAll enc Try.prog W 0 (fun _ => true) true Try.f7.params.toList args.toList ds p := hA0
  rw [Try.params7] at hA hval
  obtain ⟨v0, vs0, d0, ds0, p0, q0, hargs, rfl, rfl, h0, r0⟩ := trodAll_cons hA
  obtain ⟨v1, vs1, d1, ds1, p1, q1, rfl, rfl, rfl, h1, r1⟩ := trodAll_cons r0
  obtain ⟨v2, vs2, d2, ds2, p2, q2, rfl, rfl, rfl, h2, r2⟩ := trodAll_cons r1
  obtain ⟨rfl, rfl, rfl⟩ := trodAll_nil r2
  obtain rfl : args = #[v0, v1, v2] := by cases args; simp_all
  obtain ⟨rfl, rfl⟩ := trodVars_none hV
  obtain ⟨a0, rfl, rfl, rfl, w0⟩ := open_string Try.underlying9 (hval 0 9 v0 rfl rfl) h0
  obtain ⟨a1, rfl, rfl, rfl, w1⟩ := open_string Try.underlying9 (hval 1 9 v1 rfl rfl) h1
  obtain ⟨a2, rfl, rfl, rfl, w2⟩ := open_int Try.underlying3 (hval 2 3 v2 rfl rfl) h2
  clear hA0 hval0
  refine (walk a0 a1 a2 W w0 w1 w2).mono fun e W' ⟨he, bel⟩ => ?_
  subst he
  exact ⟨_, rfl, _, _, _, [], _, [], hW', trodAll_mk1 (shut_bool Try.underlying4 _), (trodAll_cons_mk (shut_string Try.underlying9 w0) (trodAll_cons_mk (shut_string Try.underlying9 w1) (trodAll_cons_mk (shut_int Try.underlying3 w2) trodAll_mk0))), rfl, bel.frame _, fun h => by cases h⟩

theorem over : Rows.fnValidNameJoinPrefixRefuseRow.holds Try.pinned (OpenSpec.ofChange Rows.fnValidNameJoinPrefixRefuseSpec) :=
  OpenClaim.holds_of_wide 7 Try.f7 rfl rfl rfl rfl rfl rfl rfl ⟨rfl, rfl, rfl, rfl, rfl⟩ rfl rfl rfl rfl rfl (by kernel_rfl) Try.func7 (by kernel_rfl)
    (of_decide_eq_true (by kernel_rfl)) (by unfold Func.isWrapper; first | (rw [if_pos (by decide +kernel)]; kernel_rfl) | (rw [if_neg (by decide +kernel)]; exact ⟨rfl, rfl⟩))
    (fun os started H enc _ => lifted os started H enc)

/-- The statement. -/
theorem proved : Rows.FnValidNameJoinPrefixRefuseSaid := over
#print axioms proved
end Go.Proofs.Ytbfnkblcagoemaa.fnValidNameJoinPrefixRefuse
