/-
  For every int64 n, every base and every count k, FnAtoiLargeBaseInvertsFormat(n, base, k) returns true. No conditions.
  The frame round the walk was written by the kit's proof-skeleton.
-/
import Derived.Test.YtkhcdanjoaagbaaRows
import Derived.WalkKit
import Derived.ProofKit
import Derived.OpenShut
import Derived.Test.YtkhcdanjoaagbaaFmt
import Derived.ShutString
import Derived.ChangeOld
import Derived.Below
namespace Go.Proofs.Ytkhcdanjoaagbaa.fnAtoiLargeBaseInvertsFormat
open Go.ChangeShapes Go.WideShapes Go.ChangeAt Go.RowKit
open Go.ChangeMaps (open_string shut_string)
set_option linter.unusedVariables false

open Go.Proofs.Ytkhcdanjoaagbaa.plain
open Go.Proofs.Ytkhcdanjoaagbaa.own
open Go.Proofs.Ytkhcdanjoaagbaa.atoi
open Go.Proofs.Ytkhcdanjoaagbaa.fmtd

theorem own : ownKnob Try.prog.godebug = none := by kernel_rfl
theorem laidOut : laidOutB Try.prog = true := by kernel_rfl

/-- WHAT THE WALK IS TOLD OF A SLICE OF INTEGERS THAT CAME IN: it is nil; or it leads to a row of 'cap' cells, the numbers 'zs' (the first 'len' are its elements, the rest its spare room), each fitting its kind. -/
def IsRow (k : IntKind) (w : World) (a : Option Addr) (len cap : Nat) (zs : List Int) : Prop :=
  (a = none ∧ len = 0 ∧ cap = 0 ∧ zs = []) ∨
  ∃ x, a = some x ∧ len ≤ cap ∧ cap ≤ maxLen ∧ zs.length = cap ∧ (∀ i, i < zs.length → w.cell? (x.add i) = some (.int k (zs.getD i 0))) ∧ ∀ n ∈ zs, (Lit.int k n).wf = true

/-! ### The walk -/
theorem u64_of (n : Int) : ∃ U : Nat, U < 18446744073709551616 ∧ IntKind.u64.wrap n = (U : Int) ∧ (-9223372036854775808 ≤ n → n ≤ 9223372036854775807 → wrap64 (U : Int) = n) := by
  refine ⟨(n % 18446744073709551616).toNat, by omega, ?_, ?_⟩
  · rw [IntKind.wrap_u64]; omega
  · intro h1 h2; unfold wrap64; omega
set_option maxHeartbeats 1000000 in
theorem main (a0 : Int) (b k : Nat) (w : World) (h1 : -9223372036854775808 ≤ a0) (h2 : a0 ≤ 9223372036854775807) (hb1 : 2 ≤ b) (hb2 : b ≤ 64) (hk : k ≤ 65536) :
    Calls Try.prog 4 #[.int .i64 a0, .int .i64 b, .int .i64 k] w fun e w' => e = .returned (.bool true) ∧ Below w.heap.size w w' := by
  obtain ⟨U, hU, hw, hback⟩ := u64_of a0
  have HB := Lib.hid (hback h1 h2)
  have HU := Lib.hid hU
  clear hback hU
  go_enter Try.func4, Try.ntmps4
  go_wp2_with fail
  refine (zeros_any k _ hk).mono ?_
  rintro e w1 ⟨rfl, hz⟩
  have HZ := Lib.hid hz
  clear hz
  go_wp2_with fail
  refine (format_any U b _ HU.out hb1 hb2).mono ?_
  rintro e w2 ⟨ds, d1, d2, d3, rfl, hf⟩
  have D := Lib.hid (And.intro d1 (And.intro d2 (And.intro d3 hf)))
  clear d1 d2 hf
  have hs : ((⟨Array.replicate k 48⟩ ++ ⟨(ds.map tabB).reverse.toArray⟩ : ByteArray)).data.toList = List.replicate k 48 ++ (ds.map tabB).reverse := by
    rw [ByteArray.data_append]; simp
  have hsz : ((⟨Array.replicate k 48⟩ ++ ⟨(ds.map tabB).reverse.toArray⟩ : ByteArray)).size ≤ 1099511627776 := by
    have h : ((⟨Array.replicate k 48⟩ ++ ⟨(ds.map tabB).reverse.toArray⟩ : ByteArray)).size = (((⟨Array.replicate k 48⟩ ++ ⟨(ds.map tabB).reverse.toArray⟩ : ByteArray)).data.toList).length := by simp [ByteArray.size]
    rw [h, hs]; simp; omega
  have hat : atoiF (b : Int) ((⟨Array.replicate k 48⟩ ++ ⟨(ds.map tabB).reverse.toArray⟩ : ByteArray)).data.toList 0 = a0 := by
    rw [hs, atoi_zeros _ (by omega), atoi_digits b hb2 ds D.out.1, D.out.2.1]; exact HB.out
  have HA := Lib.hid hat
  have HS := Lib.hid hsz
  clear hs hat hsz
  go_wp2_with fail
  go_in
  go_wp2_with fail
  refine (atoi_any _ _ _ HS.out).mono ?_
  rw [HA.out]
  rintro e w' ⟨rfl, rfl⟩
  go_wp2_with fail
  go_ret
  exact ⟨rfl, HZ.out.trans (D.out.2.2.2.mono HZ.out.size)⟩
theorem walk (a0 : Int) (a1 : Int) (a2 : Int) (w : World) (w0 : (Lit.int .i64 a0).wf = true) (w1 : (Lit.int .i64 a1).wf = true) (w2 : (Lit.int .i64 a2).wf = true) :
    Calls Try.prog 4 #[.int .i64 a0, .int .i64 a1, .int .i64 a2] w fun e w' => e = .returned (.bool true) ∧ Below w.heap.size w w' := by
  have b0 := wf_i64 w0; have b1 := wf_i64 w1; have b2 := wf_i64 w2
  clear w0 w1 w2
  by_cases k1 : a1 < 2
  · go_enter Try.func4, Try.ntmps4
    go_wp2
    go_ret
    exact ⟨rfl, Below.refl _ _⟩
  · by_cases k2 : 64 < a1
    · go_enter Try.func4, Try.ntmps4
      go_wp2
      go_ret
      exact ⟨rfl, Below.refl _ _⟩
    · by_cases k3 : a2 < 0
      · go_enter Try.func4, Try.ntmps4
        go_wp2
        go_ret
        exact ⟨rfl, Below.refl _ _⟩
      · by_cases k4 : 65536 < a2
        · go_enter Try.func4, Try.ntmps4
          go_wp2
          go_ret
          exact ⟨rfl, Below.refl _ _⟩
        · obtain ⟨b, rfl⟩ := Int.eq_ofNat_of_zero_le (show 0 ≤ a1 by omega)
          obtain ⟨k, rfl⟩ := Int.eq_ofNat_of_zero_le (show 0 ≤ a2 by omega)
          exact main a0 b k w b0.1 b0.2 (by omega) (by omega) (by omega)

/-! ### The row's step (frame) -/
set_option maxRecDepth 100000 in
theorem lifted (os : Os) (started : os.Started) (H : Type) (enc : TypeId × Value → H) :
    ReturnsInHanded {} Try.checked os 4 .any (Rows.fnAtoiLargeBaseInvertsFormatSpec.pre6 enc Try.prog Try.f4 Rows.fnAtoiLargeBaseInvertsFormatRow.domain false) (Rows.fnAtoiLargeBaseInvertsFormatSpec.post enc Try.prog Try.f4 false true false false) := by
  refine returnsInHanded_of_change (C := Try.checked) own started (by kernel_rfl) Try.func4
    (ChangeSpec.witness6 (enc := enc) (C := Try.checked) false ⟨#[], #[.int .i64 0, .int .i64 0, .int .i64 0], []⟩ 8 (by kernel_rfl) (by kernel_rfl) (by kernel_rfl) (by kernel_rfl)) ?_
  intro W base args ds gs before hval0 hW hcnd _
  have hval : ∀ (j : Nat) t v, Try.f4.params[j]? = some t → args[j]? = some v → Value.okWide Try.prog W .any base t v := hval0
  have hW' := hW
  obtain ⟨p, q, hA0, hV, rfl, hfz, hnd⟩ := hW
  have hA : DataW.TrodAll enc Try.prog W 0 (fun _ => true) true Try.f4.params.toList args.toList ds p := hA0
  rw [Try.params4] at hA hval
  obtain ⟨v0, vs0, d0, ds0, p0, q0, hargs, rfl, rfl, h0, r0⟩ := trodAll_cons hA
  obtain ⟨v1, vs1, d1, ds1, p1, q1, rfl, rfl, rfl, h1, r1⟩ := trodAll_cons r0
  obtain ⟨v2, vs2, d2, ds2, p2, q2, rfl, rfl, rfl, h2, r2⟩ := trodAll_cons r1
  obtain ⟨rfl, rfl, rfl⟩ := trodAll_nil r2
  obtain rfl : args = #[v0, v1, v2] := by cases args; simp_all
  obtain ⟨rfl, rfl⟩ := trodVars_none hV
  obtain ⟨a0, rfl, rfl, rfl, w0⟩ := open_int Try.underlying2 (hval 0 2 v0 rfl rfl) h0
  obtain ⟨a1, rfl, rfl, rfl, w1⟩ := open_int Try.underlying2 (hval 1 2 v1 rfl rfl) h1
  obtain ⟨a2, rfl, rfl, rfl, w2⟩ := open_int Try.underlying3 (hval 2 3 v2 rfl rfl) h2
  clear hA0 hval0
  refine (walk a0 a1 a2 W w0 w1 w2).mono fun e W' ⟨he, bel⟩ => ?_
  subst he
  exact ⟨_, rfl, _, _, _, [], _, [], hW', trodAll_mk1 (shut_bool Try.underlying4 _), (trodAll_cons_mk (shut_int Try.underlying2 w0) (trodAll_cons_mk (shut_int Try.underlying2 w1) (trodAll_cons_mk (shut_int Try.underlying3 w2) trodAll_mk0))), rfl, bel.frame _, fun h => by cases h⟩

theorem over : Rows.fnAtoiLargeBaseInvertsFormatRow.holds Try.pinned (OpenSpec.ofChange Rows.fnAtoiLargeBaseInvertsFormatSpec) :=
  OpenClaim.holds_of_wide 4 Try.f4 rfl rfl rfl rfl rfl rfl rfl ⟨rfl, rfl, rfl, rfl, rfl⟩ rfl rfl rfl rfl rfl (by kernel_rfl) Try.func4 (by kernel_rfl)
    (of_decide_eq_true (by kernel_rfl)) (by unfold Func.isWrapper; first | (rw [if_pos (by decide +kernel)]; kernel_rfl) | (rw [if_neg (by decide +kernel)]; exact ⟨rfl, rfl⟩))
    (fun os started H enc _ => lifted os started H enc)

/-- The statement. -/
theorem proved : Rows.FnAtoiLargeBaseInvertsFormatSaid := over
#print axioms proved
end Go.Proofs.Ytkhcdanjoaagbaa.fnAtoiLargeBaseInvertsFormat
