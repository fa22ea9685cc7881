/-
  For every text s, FnHasMetaFalseOnFullyEscaped(s) returns true. No conditions.
  The frame round the walk was written by the kit's proof-skeleton.
-/
import Derived.Test.YtkhcdanjoaagbaaRows
import Derived.WalkKit
import Derived.ProofKit
import Derived.OpenShut
import Derived.Test.YtkhcdanjoaagbaaMeta
import Derived.Test.YtkhcdanjoaagbaaOwn
import Derived.OwnWalk
import Derived.ShutString
import Derived.ChangeOld
import Derived.Below
namespace Go.Proofs.Ytkhcdanjoaagbaa.fnHasMetaFalseOnFullyEscaped
open Go.ChangeShapes Go.WideShapes Go.ChangeAt Go.RowKit
open Go.ChangeMaps (open_string shut_string)
set_option linter.unusedVariables false

open Go.Proofs.Ytkhcdanjoaagbaa.plain
open Go.Proofs.Ytkhcdanjoaagbaa.own
open Go.Proofs.Ytkhcdanjoaagbaa.metas

theorem own : ownKnob Try.prog.godebug = none := by kernel_rfl
theorem laidOut : laidOutB Try.prog = true := by kernel_rfl

/-- WHAT THE WALK IS TOLD OF A SLICE OF INTEGERS THAT CAME IN: it is nil; or it leads to a row of 'cap' cells, the numbers 'zs' (the first 'len' are its elements, the rest its spare room), each fitting its kind. -/
def IsRow (k : IntKind) (w : World) (a : Option Addr) (len cap : Nat) (zs : List Int) : Prop :=
  (a = none ∧ len = 0 ∧ cap = 0 ∧ zs = []) ∨
  ∃ x, a = some x ∧ len ≤ cap ∧ cap ≤ maxLen ∧ zs.length = cap ∧ (∀ i, i < zs.length → w.cell? (x.add i) = some (.int k (zs.getD i 0))) ∧ ∀ n ∈ zs, (Lit.int k n).wf = true

/-! ### The walk -/
theorem info5 : (Try.prog.info? 5).map (fun i => (i.zero, i.size, i.bytes)) = some (some (.int .u8 0), 1, 1) := by kernel_rfl
theorem take_snoc (s : ByteArray) (k : Nat) (h : k < s.size) : s.data.toList.take (k + 1) = s.data.toList.take k ++ [s[k]] := by
  rw [List.take_succ_eq_append_getElem (by simpa using h)]; rfl
theorem escL_append (l : List UInt8) (c : UInt8) : escL (l ++ [c]) = escL l ++ [92] ++ [c] := by
  induction l with
  | nil => rfl
  | cons x r ih => simp [escL, ih]
theorem escL_length (l : List UInt8) : (escL l).length = 2 * l.length := by
  induction l with
  | nil => rfl
  | cons x r ih => simp [escL, ih]; omega
/-- the loop's relation -/
def rel (s : ByteArray) (B : Nat) (w : World) (k : Nat) (v : Value) (wr : World) : Prop :=
  wr.ownsRow B 5 1 v (2 * k) (bytesV (escL (s.data.toList.take k))) ∧ Below B w wr ∧ B ≤ wr.heap.size
theorem rel_step {s : ByteArray} {B k : Nat} {w wr w1 w2 : World} {v v1 v2 : Value} {o1 o2 : Obj} (hk : k < s.size) (h : rel s B w k v wr)
    (h1 : w1.ownsRow B 5 1 v1 (2 * k + 1) (bytesV (escL (s.data.toList.take k)) ++ [.int .u8 92])) (g1 : (wr.alloc o1).grownBy w1 v.ownBlock)
    (h2 : w2.ownsRow B 5 1 v2 (2 * k + 1 + 1) (bytesV (escL (s.data.toList.take k)) ++ [.int .u8 92] ++ [.int .u8 (s[k].toNat : Int)])) (g2 : (w1.alloc o2).grownBy w2 v1.ownBlock) :
    rel s B w (k + 1) v2 w2 := by
  obtain ⟨r1, r2, r3⟩ := h
  have b1 : Below B w w1 := (r2.alloc r3 o1).grown g1 (by simp; omega) (own_row_ge r1)
  have s1 : B ≤ w1.heap.size := by have := g1.size; simp at this; omega
  have b2 : Below B w w2 := (b1.alloc s1 o2).grown g2 (by simp; omega) (own_row_ge h1)
  refine ⟨?_, b2, by have := g2.size; simp at this; omega⟩
  rw [take_snoc s k hk, escL_append, bytesV_append, bytesV_append]
  exact h2
set_option maxHeartbeats 1000000 in
theorem walk (a0 : ByteArray) (w : World) (w0 : a0.size ≤ maxLen) :
    Calls Try.prog 6 #[.string a0] w fun e w' => e = .returned (.bool true) ∧ Below w.heap.size w w' := by
  unfold maxLen at w0
  obtain ⟨i0, hi, hz0, hz1, hz2⟩ := info_parts info5
  by_cases k1 : a0.size ≤ 1048576
  · by_cases k2 : a0.size ≤ 65536
    · go_enter Try.func6, Try.ntmps6
      go_wp2_with (first | (go_at_call 15; go_in) | (at_make; refine wpList_make_own _ rfl _ _ 31 rfl w.heap.size 5 i0 (.int .u8 0) 1 Try.underlying31 hi hz0 hz1 .i64 .i64 _ (2 * a0.size) rfl rfl ?c0 ?c1 ?c2 ?c3 ?_))
      case c0 => simp
      case c1 => rw [hz2]; omega
      case c2 => unfold maxLen; omega
      case c3 => exact Nat.le_refl _
      intro w1 hown hgrow
      have HR := Lib.hid (show rel a0 w.heap.size w 0 (.slice (some ⟨w.heap.size, 0, none⟩) 0 (2 * a0.size)) w1 from ⟨hown, (Below.refl _ _).grown hgrow (Nat.le_refl _) (fun k h => by cases h), hgrow.size⟩)
      clear hown hgrow
      go_wp2
      go_loopw [3, 4] (fun v i wr => ∃ k : Nat, k ≤ a0.size ∧ i = .int .i64 k ∧ rel a0 w.heap.size w k v wr) (fun _ i _ => a0.size - (intOf i).toNat)
      case atStart => exact ⟨0, by omega, rfl, HR.out⟩
      case round =>
        obtain ⟨k, hk, rfl, hr⟩ := hrel
        have H := Lib.hid hr
        clear hr
        by_cases hlt : k < a0.size
        · have hown := H.out.1
          have hsz := H.out.2.2
          go_wp2_with (at_builtin; refine wpList_append_own _ rfl _ _ 31 rfl w.heap.size 5 i0 (.int .u8 0) 1 1 Try.underlying31 hi hz0 hz1 hz2 rfl (by decide) _ _ _ rfl (hown.alloc _) ⟨wr.heap.size, 0, none⟩ 1 1 [.int .u8 92] rfl rfl one_new ?c2 ?c3 ?c4 ?c5 ?_)
          case c2 => intro u hu; simp at hu; subst hu; rfl
          case c3 => unfold maxLen; omega
          case c4 => omega
          case c5 => simp; omega
          intro v1 w2 hown1 hgrow1 _
          have G1 := Lib.hid hgrow1
          have O1 := Lib.hid hown1
          have hs2 : w.heap.size ≤ w2.heap.size := by have := hgrow1.size; simp at this; omega
          clear hgrow1 hown
          go_wp2_with (at_builtin; refine wpList_append_own _ rfl _ _ 31 rfl w.heap.size 5 i0 (.int .u8 0) 1 1 Try.underlying31 hi hz0 hz1 hz2 rfl (by decide) _ _ _ rfl (hown1.alloc _) ⟨w2.heap.size, 0, none⟩ 1 1 [.int .u8 (a0[k].toNat : Int)] rfl rfl one_new ?d2 ?d3 ?d4 ?d5 ?_)
          case d2 => intro u hu; simp at hu; subst hu; rfl
          case d3 => unfold maxLen; omega
          case d4 => omega
          case d5 => simp; omega
          intro v2 w3 hown2 hgrow2 _
          have R := Lib.hid (rel_step hlt H.out O1.out G1.out (by simpa using hown2) hgrow2)
          clear hown2 hgrow2 hown1
          go_wp2
          go_roundw
          case rel => exact ⟨k + 1, by omega, by go_num, R.out⟩
          case measure => simp [intOf]; omega
        · obtain rfl : k = a0.size := by omega
          have hcv := conv_own (P := Try.prog) 31 9 Try.underlying31 Try.underlying5 Try.underlying9 H.out.1
          have hbl := H.out.2.1
          have hln : (escL (a0.data.toList.take a0.size)).length ≤ 1099511627776 := by rw [escL_length]; have := List.length_take_le a0.size a0.data.toList; omega
          have hsz : (⟨(escL (a0.data.toList.take a0.size)).toArray⟩ : ByteArray).size ≤ 1099511627776 := by show ((escL (a0.data.toList.take a0.size)).toArray).size ≤ _; rw [List.size_toArray]; exact hln
          have hrun : runGo (⟨(escL (a0.data.toList.take a0.size)).toArray⟩ : ByteArray).data.toList false false = false := by simpa using run_esc (a0.data.toList.take a0.size) false
          clear hln
          go_wp2_with fail
          refine (hasMeta_any _ _ _ hsz).mono ?_
          rw [hrun]
          rintro e w' ⟨rfl, rfl⟩
          go_wp2_with fail
          go_ret
          exact ⟨rfl, hbl⟩
    · go_enter Try.func6, Try.ntmps6
      go_wp2
      go_ret
      exact ⟨rfl, Below.refl _ _⟩
  · go_enter Try.func6, Try.ntmps6
    go_wp2
    go_ret
    exact ⟨rfl, Below.refl _ _⟩

/-! ### The row's step (frame) -/
set_option maxRecDepth 100000 in
theorem lifted (os : Os) (started : os.Started) (H : Type) (enc : TypeId × Value → H) :
    ReturnsInHanded {} Try.checked os 6 .any (Rows.fnHasMetaFalseOnFullyEscapedSpec.pre6 enc Try.prog Try.f6 Rows.fnHasMetaFalseOnFullyEscapedRow.domain false) (Rows.fnHasMetaFalseOnFullyEscapedSpec.post enc Try.prog Try.f6 false true false false) := by
  refine returnsInHanded_of_change (C := Try.checked) own started (by kernel_rfl) Try.func6
    (ChangeSpec.witness6 (enc := enc) (C := Try.checked) false ⟨#[], #[.string ByteArray.empty], []⟩ 8 (by kernel_rfl) (by kernel_rfl) (by kernel_rfl) (by kernel_rfl)) ?_
  intro W base args ds gs before hval0 hW hcnd _
  have hval : ∀ (j : Nat) t v, Try.f6.params[j]? = some t → args[j]? = some v → Value.okWide Try.prog W .any base t v := hval0
  have hW' := hW
  obtain ⟨p, q, hA0, hV, rfl, hfz, hnd⟩ := hW
  have hA : DataW.TrodAll enc Try.prog W 0 (fun _ => true) true Try.f6.params.toList args.toList ds p := hA0
  rw [Try.params6] at hA hval
  obtain ⟨v0, vs0, d0, ds0, p0, q0, hargs, rfl, rfl, h0, r0⟩ := trodAll_cons hA
  obtain ⟨rfl, rfl, rfl⟩ := trodAll_nil r0
  obtain rfl : args = #[v0] := by cases args; simp_all
  obtain ⟨rfl, rfl⟩ := trodVars_none hV
  obtain ⟨a0, rfl, rfl, rfl, w0⟩ := open_string Try.underlying9 (hval 0 9 v0 rfl rfl) h0
  clear hA0 hval0
  refine (walk a0 W w0).mono fun e W' ⟨he, bel⟩ => ?_
  subst he
  exact ⟨_, rfl, _, _, _, [], _, [], hW', trodAll_mk1 (shut_bool Try.underlying4 _), (trodAll_cons_mk (shut_string Try.underlying9 w0) trodAll_mk0), rfl, bel.frame _, fun h => by cases h⟩

theorem over : Rows.fnHasMetaFalseOnFullyEscapedRow.holds Try.pinned (OpenSpec.ofChange Rows.fnHasMetaFalseOnFullyEscapedSpec) :=
  OpenClaim.holds_of_wide 6 Try.f6 rfl rfl rfl rfl rfl rfl rfl ⟨rfl, rfl, rfl, rfl, rfl⟩ rfl rfl rfl rfl rfl (by kernel_rfl) Try.func6 (by kernel_rfl)
    (of_decide_eq_true (by kernel_rfl)) (by unfold Func.isWrapper; first | (rw [if_pos (by decide +kernel)]; kernel_rfl) | (rw [if_neg (by decide +kernel)]; exact ⟨rfl, rfl⟩))
    (fun os started H enc _ => lifted os started H enc)

/-- The statement. -/
theorem proved : Rows.FnHasMetaFalseOnFullyEscapedSaid := over
#print axioms proved
end Go.Proofs.Ytkhcdanjoaagbaa.fnHasMetaFalseOnFullyEscaped
