/-
  For every list of ints, FnCanonicalIndexesIdempotent returns true. No conditions.
  The frame round the walk was written by the kit's proof-skeleton.
-/
import Derived.Test.YtkhcdanjoaagbaaRows
import Derived.WalkKit
import Derived.ProofKit
import Derived.OpenShut
import Derived.Test.YtkhcdanjoaagbaaClone
import Derived.BigQuiet
import Derived.Deep.QuietTactic
import Derived.ShutString
import Derived.ChangeOld
import Derived.Below
namespace Go.Proofs.Ytkhcdanjoaagbaa.fnCanonicalIndexesIdempotent
open Go.ChangeShapes Go.WideShapes Go.ChangeAt Go.RowKit
open Go.ChangeMaps (open_string shut_string)
set_option linter.unusedVariables false

open Go.Proofs.Ytkhcdanjoaagbaa.own
open Go.Proofs.Ytkhcdanjoaagbaa.clone

theorem own : ownKnob Try.prog.godebug = none := by kernel_rfl
theorem laidOut : laidOutB Try.prog = true := by kernel_rfl

/-- WHAT THE WALK IS TOLD OF A SLICE OF INTEGERS THAT CAME IN: it is nil; or it leads to a row of 'cap' cells, the numbers 'zs' (the first 'len' are its elements, the rest its spare room), each fitting its kind. -/
def IsRow (k : IntKind) (w : World) (a : Option Addr) (len cap : Nat) (zs : List Int) : Prop :=
  (a = none ∧ len = 0 ∧ cap = 0 ∧ zs = []) ∨
  ∃ x, a = some x ∧ len ≤ cap ∧ cap ≤ maxLen ∧ zs.length = cap ∧ (∀ i, i < zs.length → w.cell? (x.add i) = some (.int k (zs.getD i 0))) ∧ ∀ n ∈ zs, (Lit.int k n).wf = true

/-! ### The walk -/
/-- CanonicalIndexes at nil and at an empty slice -/
theorem canon_zero (a : Option Addr) (cap : Nat) (w : World) : Calls Try.prog 21 #[.slice a 0 cap] w fun e w' => e = .returned (.slice none 0 0) ∧ w = w' := by
  go_enter Try.func21, Try.ntmps21
  go_wp2
  refine wp_loop_rounds 1 ?_
  rw [rounds_succ]
  go_wp2
  go_ret
  exact ⟨rfl, rfl⟩
/-- CanonicalIndexes at 0, 1, 2, .. -/
theorem canon_dense (g n cap : Nat) (f : Nat → Int) (w : World) (hn : n ≤ 1048576) (hc : ∀ i, i < n → w.cell? ⟨g, i, none⟩ = some (.int .i64 (f i))) (hd : ∀ i, i < n → f i = i) :
    Calls Try.prog 21 #[.slice (some ⟨g, 0, none⟩) n cap] w fun e w' => e = .returned (.slice none 0 0) ∧ w = w' := by
  have HC := Lib.hid hc
  have HD := Lib.hid hd
  clear hc hd
  go_enter Try.func21, Try.ntmps21
  go_wp2
  go_loop [7] (fun y => ∃ k : Nat, k ≤ n ∧ y = .int .i64 k) (fun y => n - (intOf y).toNat)
  case atStart => exact ⟨0, by omega, rfl⟩
  case round =>
    obtain ⟨k, hk, rfl⟩ := hrel
    by_cases hlt : k < n
    · have c0 := HC.out k hlt
      have t0 : (f k != (k : Int)) = false := by rw [HD.out k hlt]; simp
      go_wp2
      go_round
      case rel => exact ⟨k + 1, by omega, by go_num⟩
      case measure => simp [intOf]; omega
    · go_wp2
      go_ret
      exact ⟨rfl, rfl⟩
def Upto (f : Nat → Int) (k : Nat) : Prop := ∀ i, i < k → f i = i
/-- CanonicalIndexes at anything else -/
theorem canon_other (g n cap : Nat) (f : Nat → Int) (w : World) (hn : n ≤ 1048576) (hc : ∀ i, i < n → w.cell? ⟨g, i, none⟩ = some (.int .i64 (f i))) (hd : ¬ Upto f n) :
    Calls Try.prog 21 #[.slice (some ⟨g, 0, none⟩) n cap] w fun e w' => e = .returned (.slice (some ⟨g, 0, none⟩) n cap) ∧ w = w' := by
  have HC := Lib.hid hc
  have HD := Lib.hid hd
  clear hc hd
  go_enter Try.func21, Try.ntmps21
  go_wp2
  go_loop [7] (fun y => ∃ k : Nat, k ≤ n ∧ y = .int .i64 k ∧ Upto f k) (fun y => n - (intOf y).toNat)
  case atStart => exact ⟨0, by omega, rfl, fun i hi => absurd hi (by omega)⟩
  case round =>
    obtain ⟨k, hk, rfl, hu⟩ := hrel
    have HU := Lib.hid hu
    clear hu
    by_cases hlt : k < n
    · have c0 := HC.out k hlt
      by_cases he : f k = k
      · have t0 : (f k != (k : Int)) = false := by rw [he]; simp
        have HN := Lib.hid (show Upto f (k + 1) from fun i hi => by
          rcases Nat.lt_or_ge i k with h | h
          · exact HU.out i h
          · have e : i = k := by omega
            rw [e]; exact he)
        clear he
        go_wp2
        go_round
        case rel => exact ⟨k + 1, by omega, by go_num, HN.out⟩
        case measure => simp [intOf]; omega
      · have t0 : (f k != (k : Int)) = true := by simpa using he
        clear he
        go_wp2
        go_ret
        exact ⟨rfl, rfl⟩
    · obtain rfl : k = n := by omega
      exact absurd HU.out HD.out
theorem same_zero (a b : Option Addr) (cap cap' : Nat) (w : World) : Calls Try.prog 22 #[.slice a 0 cap, .slice b 0 cap'] w fun e w' => e = .returned (.bool true) ∧ w = w' := by
  go_enter Try.func22, Try.ntmps22
  go_wp2
  refine wp_loop_rounds 1 ?_
  rw [rounds_succ]
  go_wp2
  go_ret
  exact ⟨rfl, rfl⟩
set_option maxHeartbeats 1000000 in
theorem same_row (g n cap cap' : Nat) (f : Nat → Int) (w : World) (hn : n ≤ 1048576) (hc : ∀ i, i < n → w.cell? ⟨g, i, none⟩ = some (.int .i64 (f i))) :
    Calls Try.prog 22 #[.slice (some ⟨g, 0, none⟩) n cap, .slice (some ⟨g, 0, none⟩) n cap'] w fun e w' => e = .returned (.bool true) ∧ Below w.heap.size w w' := by
  have HC := Lib.hid hc
  clear hc
  go_enter Try.func22, Try.ntmps22
  go_wp2
  go_loopw [5] (fun y wr => ∃ k : Nat, k ≤ n ∧ y = .int .i64 k ∧ Below w.heap.size w wr) (fun y _ => n - (intOf y).toNat)
  case atStart => exact ⟨0, by omega, rfl, Below.refl _ _⟩
  case round =>
    obtain ⟨k, hk, rfl, hb⟩ := hrel
    by_cases hlt : k < n
    · have c0 := cb hb (by exact cell_lt (HC.out k hlt)) (HC.out k hlt)
      have i1 : (0 : Int) ≤ (k : Int) := by omega
      have i2 : (k : Int) < (n : Int) := by omega
      go_wp2
      go_quiet (fail)
      go_wp2
      go_roundw
      case rel => exact ⟨k + 1, by omega, by go_num, ⟨hb.os, hb.tape, hb.output, hb.size, hb.block⟩⟩
      case measure => simp [intOf]; omega
    · go_wp2
      go_ret
      exact ⟨rfl, hb⟩
theorem row_at {w : World} {x : Addr} {n : Nat} {F : Nat → Value} (h : ∀ i, i < n → w.cell? (x.add i) = some (F i)) (hn : 0 < n) : ∃ b off, x = ⟨b, off, none⟩ ∧ ∀ i, i < n → w.cell? ⟨b, off + i, none⟩ = some (F i) := by
  obtain ⟨b, off, spot⟩ := x
  have hc := h 0 hn
  have hspot : spot = none := by simpa [Addr.add] using World.cell?_spot hc
  subst hspot
  refine ⟨b, off, rfl, fun i hi => ?_⟩
  have hadd : (⟨b, off, none⟩ : Addr).add i = ⟨b, off + i, none⟩ := by unfold Addr.add; split <;> simp_all
  rw [← hadd]; exact h i hi
set_option maxHeartbeats 1000000 in
theorem walk (a0 : Option Addr) (len0 cap0 : Nat) (z0 : List Int) (w : World) (w0 : IsRow .i64 w a0 len0 cap0 z0) :
    Calls Try.prog 8 #[.slice a0 len0 cap0] w fun e w' => e = .returned (.bool true) ∧ Below w.heap.size w w' := by
  have hq := fun w a n c => Lib.run_eql_slice_nil (P := Try.prog) w 36 3 a n c 0 0 Try.underlying36
  rcases w0 with ⟨rfl, rfl, rfl, rfl⟩ | ⟨x, rfl, hl, hm, hz, hcell, hwz⟩
  · go_enter Try.func8, Try.ntmps8
    go_wp2_with (first | (go_at_call 20; refine (cloneI_nil _).mono ?_; rintro e w' ⟨rfl, rfl⟩) | (go_at_call 21; refine (canon_zero _ _ _).mono ?_; rintro e w' ⟨rfl, rfl⟩) | (go_at_call 22; refine (same_zero _ _ _ _ _).mono ?_; rintro e w' ⟨rfl, rfl⟩) | go_in)
    go_ret
    exact ⟨rfl, Below.refl _ _⟩
  · unfold maxLen at hm
    clear hwz
    by_cases h0 : len0 = 0
    · subst h0
      clear hcell
      go_enter Try.func8, Try.ntmps8
      go_wp2_with (first | (go_at_call 19; go_in))
      refine (cloneI_empty _ _ _).mono ?_
      rintro e w1 ⟨rfl, hb⟩
      go_wp2_with (first | (go_at_call 21; refine (canon_zero _ _ _).mono ?_; rintro e w' ⟨rfl, rfl⟩) | (go_at_call 22; refine (same_zero _ _ _ _ _).mono ?_; rintro e w' ⟨rfl, rfl⟩))
      go_ret
      exact ⟨rfl, hb⟩
    · by_cases k1 : len0 ≤ 1048576
      · by_cases k2 : len0 ≤ 131072
        · obtain ⟨b, off, rfl, hc⟩ := row_at (n := len0) (F := fun i => .int .i64 (z0.getD i 0)) (fun i hi => hcell i (by omega)) (by omega)
          have HC := Lib.hid hc
          clear hcell hc
          go_enter Try.func8, Try.ntmps8
          go_wp2_with (first | (go_at_call 19; go_in))
          refine (cloneI_row b off len0 cap0 (fun i => z0.getD i 0) _ (by omega) HC.out).mono ?_
          rintro e w1 ⟨rfl, ho, hb⟩
          have HC1 := Lib.hid (show ∀ i, i < len0 → w1.cell? ⟨w.heap.size, i, none⟩ = some (.int .i64 (z0.getD i 0)) from fun i hi => by rw [ho.cellAt i (by omega)]; exact intsV_get _ _ _ _ hi)
          clear ho
          by_cases hd : Upto (fun i => z0.getD i 0) len0
          · go_wp2_with fail
            refine (canon_dense _ _ _ (fun i => z0.getD i 0) _ (by omega) HC1.out hd).mono ?_
            rintro e w' ⟨rfl, rfl⟩
            go_wp2_with (first | (go_at_call 21; refine (canon_zero _ _ _).mono ?_; rintro e w' ⟨rfl, rfl⟩) | (go_at_call 22; refine (same_zero _ _ _ _ _).mono ?_; rintro e w' ⟨rfl, rfl⟩))
            go_ret
            exact ⟨rfl, hb⟩
          · go_wp2_with fail
            refine (canon_other _ _ _ (fun i => z0.getD i 0) _ (by omega) HC1.out hd).mono ?_
            rintro e w' ⟨rfl, rfl⟩
            go_wp2_with fail
            refine (canon_other _ _ _ (fun i => z0.getD i 0) _ (by omega) HC1.out hd).mono ?_
            rintro e w' ⟨rfl, rfl⟩
            go_wp2_with fail
            refine (same_row _ _ _ _ (fun i => z0.getD i 0) _ (by omega) HC1.out).mono ?_
            rintro e w2 ⟨rfl, hb2⟩
            go_wp2_with fail
            go_ret
            exact ⟨rfl, hb.trans (hb2.mono hb.size)⟩
        · clear hcell
          go_enter Try.func8, Try.ntmps8
          go_wp2
          go_ret
          exact ⟨rfl, Below.refl _ _⟩
      · clear hcell
        go_enter Try.func8, Try.ntmps8
        go_wp2
        go_ret
        exact ⟨rfl, Below.refl _ _⟩

/-! ### The row's step (frame) -/
set_option maxRecDepth 100000 in
theorem lifted (os : Os) (started : os.Started) (H : Type) (enc : TypeId × Value → H) :
    ReturnsInHanded {} Try.checked os 8 .any (Rows.fnCanonicalIndexesIdempotentSpec.pre6 enc Try.prog Try.f8 Rows.fnCanonicalIndexesIdempotentRow.domain false) (Rows.fnCanonicalIndexesIdempotentSpec.post enc Try.prog Try.f8 false true false false) := by
  refine returnsInHanded_of_change (C := Try.checked) own started (by kernel_rfl) Try.func8
    (ChangeSpec.witness6 (enc := enc) (C := Try.checked) false ⟨#[], #[.slice none 0 0], []⟩ 8 (by kernel_rfl) (by kernel_rfl) (by kernel_rfl) (by kernel_rfl)) ?_
  intro W base args ds gs before hval0 hW hcnd _
  have hval : ∀ (j : Nat) t v, Try.f8.params[j]? = some t → args[j]? = some v → Value.okWide Try.prog W .any base t v := hval0
  have hW' := hW
  obtain ⟨p, q, hA0, hV, rfl, hfz, hnd⟩ := hW
  have hA : DataW.TrodAll enc Try.prog W 0 (fun _ => true) true Try.f8.params.toList args.toList ds p := hA0
  rw [Try.params8] at hA hval
  obtain ⟨v0, vs0, d0, ds0, p0, q0, hargs, rfl, rfl, h0, r0⟩ := trodAll_cons hA
  obtain ⟨rfl, rfl, rfl⟩ := trodAll_nil r0
  obtain rfl : args = #[v0] := by cases args; simp_all
  obtain ⟨rfl, rfl⟩ := trodVars_none hV
  obtain ⟨a0, len0, cap0, rfl⟩ := okWide_slice Try.underlying36 (hval 0 36 v0 rfl rfl)
  have k0 := h0
  have lt0 : ∀ x ∈ p0, x.block < W.heap.size := by obtain ⟨m, hm⟩ := k0; exact DataW.trod_lt m _ _ _ hm
  obtain ⟨z0, w0⟩ : ∃ zs, IsRow .i64 W a0 len0 cap0 zs := by
    obtain ⟨fuel, hf⟩ := h0
    rcases open_ints Try.underlying36 Try.underlying3 (by kernel_rfl) hf with ⟨hcs, _⟩ | ⟨x, l, c, zs, hcs, _, hl, hm, hz, _, hcell, hwz⟩
    · simp [Value.cells] at hcs
      obtain ⟨rfl, rfl, rfl⟩ := hcs
      exact ⟨[], .inl ⟨rfl, rfl, rfl, rfl⟩⟩
    · simp [Value.cells] at hcs
      obtain ⟨rfl, rfl, rfl⟩ := hcs
      exact ⟨zs, .inr ⟨_, rfl, hl, hm, by simpa using hz, hcell, hwz⟩⟩
  clear hA0 hval0
  refine (walk a0 len0 cap0 z0 W w0).mono fun e W' ⟨he, bel⟩ => ?_
  subst he
  exact ⟨_, rfl, _, _, _, [], _, [], hW', trodAll_mk1 (shut_bool Try.underlying4 _), (trodAll_cons_mk (Below.trod laidOut (by kernel_rfl) (of_decide_eq_true (by kernel_rfl)) k0 bel lt0) trodAll_mk0), rfl, bel.frame _, fun h => by cases h⟩

theorem over : Rows.fnCanonicalIndexesIdempotentRow.holds Try.pinned (OpenSpec.ofChange Rows.fnCanonicalIndexesIdempotentSpec) :=
  OpenClaim.holds_of_wide 8 Try.f8 rfl rfl rfl rfl rfl rfl rfl ⟨rfl, rfl, rfl, rfl, rfl⟩ rfl rfl rfl rfl rfl (by kernel_rfl) Try.func8 (by kernel_rfl)
    (of_decide_eq_true (by kernel_rfl)) (by unfold Func.isWrapper; first | (rw [if_pos (by decide +kernel)]; kernel_rfl) | (rw [if_neg (by decide +kernel)]; exact ⟨rfl, rfl⟩))
    (fun os started H enc _ => lifted os started H enc)

/-- The statement. -/
theorem proved : Rows.FnCanonicalIndexesIdempotentSaid := over
#print axioms proved
end Go.Proofs.Ytkhcdanjoaagbaa.fnCanonicalIndexesIdempotent
