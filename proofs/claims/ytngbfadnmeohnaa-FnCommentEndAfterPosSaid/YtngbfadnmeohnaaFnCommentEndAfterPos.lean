/-
  For all offs, lineCol and every text, FnCommentEndAfterPos returns true. No conditions.
  The frame round the walk was written by the kit's proof-skeleton.
-/
import Derived.Test.YtngbfadnmeohnaaRows
import Derived.WalkKit
import Derived.ProofKit
import Derived.OpenShut
import Derived.Test.YtngbfadnmeohnaaPos
import Derived.Deep.RegionHeld3
import Derived.StillTailTactics
import Derived.ShutString
import Derived.ChangeOld
import Derived.Below
namespace Go.Proofs.Ytngbfadnmeohnaa.fnCommentEndAfterPos
open Go.ChangeShapes Go.WideShapes Go.ChangeAt Go.RowKit
open Go.ChangeMaps (open_string shut_string)
set_option linter.unusedVariables false

open Go.Proofs.Ytngbfadnmeohnaa.posn

theorem own : ownKnob Try.prog.godebug = none := by kernel_rfl
theorem laidOut : laidOutB Try.prog = true := by kernel_rfl

/-- WHAT THE WALK IS TOLD OF A SLICE OF INTEGERS THAT CAME IN: it is nil; or it leads to a row of 'cap' cells, the numbers 'zs' (the first 'len' are its elements, the rest its spare room), each fitting its kind. -/
def IsRow (k : IntKind) (w : World) (a : Option Addr) (len cap : Nat) (zs : List Int) : Prop :=
  (a = none ∧ len = 0 ∧ cap = 0 ∧ zs = []) ∨
  ∃ x, a = some x ∧ len ≤ cap ∧ cap ≤ maxLen ∧ zs.length = cap ∧ (∀ i, i < zs.length → w.cell? (x.add i) = some (.int k (zs.getD i 0))) ∧ ∀ n ∈ zs, (Lit.int k n).wf = true

/-! ### The walk -/
theorem ck {w : World} {a : Addr} {v : Value} (o : Obj) (h : w.cell? a = some v) : (w.alloc o).cell? a = some v := by rw [World.cell?_alloc_some w a o (by rw [h]; rfl), h]
theorem cd {w : World} {a : Addr} {v : Value} (h : w.cell? a = some v) : w.drew.cell? a = some v := h

theorem cEnd (b : Nat) (x y : Int) (t : ByteArray) (w : World) (c0 : w.cell? ⟨b, 0, none⟩ = some (.int .u32 x)) (c1 : w.cell? ⟨b, 1, none⟩ = some (.int .u32 y)) (c2 : w.cell? ⟨b, 2, none⟩ = some (.string t)) (ht : t.size ≤ 1048576) (h0 : 0 ≤ x) (h1 : x ≤ 4294967284) (h2 : (y != 0) = true) (hy0 : 0 ≤ y) (hy : y ≤ 4294967295) :
    Calls Try.prog 41 #[.pointer (some ⟨b, 0, none⟩)] w fun e w' => e = .returned (.agg #[.int .u32 (addOff x (1 + t.size)), .int .u32 (addLC y (1 + t.size))]) ∧ Below w.heap.size w w' := by
  go_enter Try.func41, Try.ntmps41
  go_wp2
  generalize hW : World.alloc _ _ = W
  have d0 : W.cell? ⟨b, 0, none⟩ = some (.int .u32 x) := by rw [← hW]; exact ck _ c0
  have d1 : W.cell? ⟨b, 1, none⟩ = some (.int .u32 y) := by rw [← hW]; exact ck _ c1
  have d2 : W.cell? ⟨b, 2, none⟩ = some (.string t) := by rw [← hW]; exact ck _ c2
  have e0 : W.cell? ⟨w.heap.size, 0, none⟩ = some (.int .u32 0) := by rw [← hW]; simp [go_sem]
  have e1 : W.cell? ⟨w.heap.size, 1, none⟩ = some (.int .u32 0) := by rw [← hW]; simp [go_sem]
  have z0 : W.frozen? ⟨w.heap.size, 0, none⟩ = false := by rw [← hW]; simp [go_sem]
  have z1 : W.frozen? ⟨w.heap.size, 1, none⟩ = false := by rw [← hW]; simp [go_sem]
  have hs : w.heap.size < W.heap.size := by rw [← hW]; simp
  have hg : Below w.heap.size w W := by rw [← hW]; go_grown
  clear hW c0 c1 c2
  have hn : IntKind.i64.wrap (1 + (t.size : Int)) = 1 + (t.size : Int) := IntWalk.i64_in _ (by omega)
  go_still_tail 10, (by kernel_rfl)
  change wpList _ _ _ _ _ W.drew
  go_wp2_with fail
  refine (add_valid _ _ _ _ h0 h1 h2 hy0 hy (by omega) (by omega)).mono ?_
  rintro e w1 ⟨rfl, hw1⟩
  have hb : Below W.heap.size W w1 := by rw [← hw1]; go_grown
  clear hw1 hn
  have f0 : w1.cell? ⟨w.heap.size, 0, none⟩ = some (.int .u32 0) := by rw [hb.cell hs]; exact e0
  have f1 : w1.cell? ⟨w.heap.size, 1, none⟩ = some (.int .u32 0) := by rw [hb.cell hs]; exact e1
  have y0 : w1.frozen? ⟨w.heap.size, 0, none⟩ = false := by rw [hb.frozen hs]; exact z0
  have y1 : w1.frozen? ⟨w.heap.size, 1, none⟩ = false := by rw [hb.frozen hs]; exact z1
  have hg1 : Below w.heap.size w w1 := hg.trans (hb.mono (by omega))
  clear hb hg e0 e1 z0 z1
  go_wp2
  exact bodyPost_ret (v := .agg #[_, _]) (by simp [results, Try.results41, go_sem, *]) rfl ⟨rfl, by go_grown⟩

def rawB (x y : Int) : Bool := decide (x ≤ 4294967284) && !decide (y = 0)
theorem raw_out {x y : Int} (h : rawB x y = true) : x ≤ 4294967284 ∧ (y != 0) = true := by
  simpa [rawB] using h
theorem raw_any (x y : Int) (w : World) (h0 : 0 ≤ x) (hx : x ≤ 4294967295) : Calls Try.prog 28 #[.int .u32 x, .int .u32 y] w fun e w' => e = .returned (.bool (rawB x y)) ∧ w = w' := by
  by_cases h1 : x ≤ 4294967284
  · by_cases h2 : y = 0
    · subst h2
      have K := Lib.hid (show false = rawB x 0 by simp [rawB])
      go_enter Try.func28, Try.ntmps28
      go_wp2
      go_ret
      exact ⟨ret_bool K.out, rfl⟩
    · have K := Lib.hid (show true = rawB x y by simp [rawB, h1, h2])
      have h3 : (y != 0) = true := by simpa using h2
      clear h2
      go_enter Try.func28, Try.ntmps28
      go_wp2
      go_ret
      exact ⟨ret_bool K.out, rfl⟩
  · have K := Lib.hid (show false = rawB x y by simp [rawB, h1])
    go_enter Try.func28, Try.ntmps28
    go_wp2
    go_ret
    exact ⟨ret_bool K.out, rfl⟩

set_option maxHeartbeats 2000000 in
theorem main (a0 : Int) (a1 : Int) (a2 : ByteArray) (w : World) (b0 : 0 ≤ a0 ∧ a0 ≤ 4294967295) (b1 : 0 ≤ a1 ∧ a1 ≤ 4294967295) (ht : a2.size ≤ 1048576) (k3 : rawB a0 a1 = true) (k4 : a0 + 1 + a2.size ≤ 4294967284) (k5 : (a1 / 16384 == 0) = false)
    (K : Int) (hK : K = addCol a1 (1 + a2.size)) (cc : (a1 % 16384 ≤ 0 ∧ K = 0) ∨ (0 < a1 % 16384 ∧ 16383 < a1 % 16384 + (1 + a2.size) ∧ K = 0) ∨ (0 < a1 % 16384 ∧ a1 % 16384 + (1 + a2.size) ≤ 16383 ∧ K = a1 % 16384 + (1 + a2.size))) :
    Calls Try.prog 9 #[.int .u32 a0, .int .u32 a1, .string a2] w fun e w' => e = .returned (.bool true) ∧ Below w.heap.size w w' := by
  have v := raw_out k3
  have va := v.1; have vb := v.2
  clear v
  have k5n : 1 ≤ a1 / 16384 := by have : a1 / 16384 ≠ 0 := by simpa using k5
                                  omega
  have f1 : (addLC a1 (1 + a2.size) != 0) = true := by have := addLC_line a1 (1 + a2.size); simp; omega
  have f2 : a0 < addOff a0 (1 + a2.size) := by unfold addOff; rw [if_neg (by omega)]; split <;> omega
  have f3 : ¬ addOff a0 (1 + a2.size) < a0 := by omega
  have q1 := addOff_bd a0 (1 + a2.size)
  have q2 := addLC_bd a1 (1 + a2.size) b1.1 b1.2
  have f4 : (addLC a1 (1 + a2.size) / 16384 == a1 / 16384) = true := by rw [addLC_line]; simp
  have HX := Lib.hid (show IntKind.u64.wrap (addOff a0 (1 + a2.size) - a0) = 1 + a2.size by unfold addOff; rw [if_neg (by omega), if_neg (by omega), IntKind.wrap_u64]; omega)
  have HY := Lib.hid (show (addLC a1 (1 + a2.size) % 16384 == K) = true by rw [addLC_col, hK]; simp)
  have m1 : 0 ≤ a1 % 16384 := by omega
  have m2 : a1 % 16384 ≤ 16383 := by omega
  clear hK
  rcases cc with ⟨g1, rfl⟩ | ⟨g1, g2, rfl⟩ | ⟨g1, g2, rfl⟩
  all_goals
    go_enter Try.func9, Try.ntmps9
    go_wp2_with (first | (go_at_call 28; refine (raw_any _ _ _ b0.1 b0.2).mono ?_; rintro e w' ⟨rfl, rfl⟩) | (go_at_call 39; go_in) | (go_at_call 29; go_in) | (go_at_call 40; go_in))
    refine (cEnd _ a0 a1 a2 _ (by simp [go_sem]) (by simp [go_sem]) (by simp [go_sem]) ht b0.1 va vb b1.1 b1.2).mono ?_
    rintro e w1 ⟨rfl, hb⟩
    have s0 : w1.cell? ⟨w.heap.size + 1 + 1 + 1, 0, none⟩ = some (.int .u32 a0) := by rw [hb.cell (by simp)]; simp [go_sem]
    have s1 : w1.cell? ⟨w.heap.size + 1 + 1 + 1, 1, none⟩ = some (.int .u32 a1) := by rw [hb.cell (by simp)]; simp [go_sem]
    have hg1 : Below w.heap.size w w1 := (show Below w.heap.size w _ by go_grown).trans (hb.mono (by simp; omega))
    clear hb
    have s0a := fun o => ck o s0
    have s1a := fun o => ck o s1
    have s0b := fun o o2 => ck o2 (ck o s0)
    have s1b := fun o o2 => ck o2 (ck o s1)
    have s0c := fun o o2 o3 => ck o3 (ck o2 (ck o s0))
    have s1c := fun o o2 o3 => ck o3 (ck o2 (ck o s1))
    go_wp2_with (first | (go_at_call 42; refine (col_any _ _ _ b1.1 b1.2).mono ?_; rintro e w' ⟨rfl, rfl⟩))
    generalize hW : World.alloc _ _ = W
    have ge0 : W.cell? ⟨w1.heap.size, 0, none⟩ = some (.int .u32 (addOff a0 (1 + a2.size))) := by rw [← hW]; simp [go_sem]
    have ge1 : W.cell? ⟨w1.heap.size, 1, none⟩ = some (.int .u32 (addLC a1 (1 + a2.size))) := by rw [← hW]; simp [go_sem]
    have gs0 : W.cell? ⟨w.heap.size + 1 + 1 + 1, 0, none⟩ = some (.int .u32 a0) := by rw [← hW]; (repeat (first | (with_reducible assumption) | (with_reducible apply ck)))
    have gs1 : W.cell? ⟨w.heap.size + 1 + 1 + 1, 1, none⟩ = some (.int .u32 a1) := by rw [← hW]; (repeat (first | (with_reducible assumption) | (with_reducible apply ck)))
    have hg : Below w.heap.size w W := by rw [← hW]; have := hg1.size; go_grown
    have hs : w.heap.size ≤ W.heap.size := hg.size
    clear hW s0a s1a s0b s1b s0c s1c s0 s1 hg1
    have hx := HX.out
    have f2b : decide (a0 < addOff a0 (1 + a2.size)) = true := by simpa using f2
    have f3b : decide (addOff a0 (1 + a2.size) < a0) = false := by simpa using f3
    have hy := HY.out
    go_region_held3 (fun w' => w'.cell? ⟨w1.heap.size, 0, none⟩ = some (.int .u32 (addOff a0 (1 + a2.size))) ∧ w'.cell? ⟨w1.heap.size, 1, none⟩ = some (.int .u32 (addLC a1 (1 + a2.size))) ∧ w'.cell? ⟨w.heap.size + 1 + 1 + 1, 0, none⟩ = some (.int .u32 a0) ∧ w'.cell? ⟨w.heap.size + 1 + 1 + 1, 1, none⟩ = some (.int .u32 a1) ∧ Below w.heap.size w w') (refine ⟨?_, ?_, ?_, ?_, ?_⟩ <;> (repeat (first | (with_reducible assumption) | (with_reducible apply ck) | (with_reducible apply cd) | (with_reducible refine Below.alloc ?_ ?_ _) | (with_reducible apply Below.drew) | go_size)))
      (first | (go_at_call 21; refine (valid_yes _ _ _ q1.2 f1).mono ?_; rintro e w' ⟨rfl, rfl⟩) | (go_at_call 15; first | ((with_reducible refine (after_valid _ _ _ _ _ q1.2 f1).mono ?_); rintro e w' ⟨rfl, rfl⟩) | ((with_reducible refine (after_valid _ _ _ _ _ va vb).mono ?_); rintro e w' ⟨rfl, rfl⟩)) | (go_at_call 38; first | ((with_reducible refine (offset_any _ _ _ q1.1 q1.2).mono ?_); rintro e w' ⟨rfl, rfl⟩) | ((with_reducible refine (offset_any _ _ _ b0.1 va).mono ?_); rintro e w' ⟨rfl, rfl⟩)) | (go_at_call 22; first | ((with_reducible refine (line_any _ _ _ q2.1 q2.2).mono ?_); rintro e w' ⟨rfl, rfl⟩) | ((with_reducible refine (line_any _ _ _ b1.1 b1.2).mono ?_); rintro e w' ⟨rfl, rfl⟩)) | (go_at_call 42; refine (col_any _ _ _ q2.1 q2.2).mono ?_; rintro e w' ⟨rfl, rfl⟩))
    go_wp2
    go_ret
    exact ⟨ret_bool (by first | rfl | (simp; omega)), by go_grown⟩

set_option maxHeartbeats 1000000 in
theorem walk (a0 : Int) (a1 : Int) (a2 : ByteArray) (w : World) (w0 : (Lit.int .u32 a0).wf = true) (w1 : (Lit.int .u32 a1).wf = true) (w2 : a2.size ≤ maxLen) :
    Calls Try.prog 9 #[.int .u32 a0, .int .u32 a1, .string a2] w fun e w' => e = .returned (.bool true) ∧ Below w.heap.size w w' := by
  have b0 := wf_u32 w0; have b1 := wf_u32 w1
  clear w0 w1
  unfold maxLen at w2
  by_cases k1 : a2.size ≤ 1048576
  · cases k3 : rawB a0 a1
    · go_enter Try.func9, Try.ntmps9
      go_wp2_with (first | (go_at_call 28; refine (raw_any _ _ _ b0.1 b0.2).mono ?_; rintro e w' ⟨rfl, rfl⟩) | (go_at_call 39; go_in))
      go_ret
      exact ⟨rfl, Below.refl _ _⟩
    · by_cases k4 : a0 + 1 + a2.size ≤ 4294967284
      · by_cases k5 : a1 / 16384 = 0
        · have k5' : (a1 / 16384 == 0) = true := by simpa using k5
          go_enter Try.func9, Try.ntmps9
          go_wp2_with (first | (go_at_call 28; refine (raw_any _ _ _ b0.1 b0.2).mono ?_; rintro e w' ⟨rfl, rfl⟩) | (go_at_call 39; go_in))
          go_ret
          exact ⟨rfl, Below.refl _ _⟩
        · refine main a0 a1 a2 w b0 b1 k1 k3 k4 (by simpa using k5) _ rfl ?_
          by_cases c1 : a1 % 16384 = 0
          · exact .inl ⟨by omega, by unfold addCol; rw [if_pos c1]⟩
          · by_cases c2 : 16383 < a1 % 16384 + (1 + a2.size)
            · exact .inr (.inl ⟨by omega, c2, by unfold addCol; rw [if_neg c1, if_pos (.inr c2)]⟩)
            · exact .inr (.inr ⟨by omega, by omega, by unfold addCol; rw [if_neg c1, if_neg (by omega)]⟩)
      · go_enter Try.func9, Try.ntmps9
        go_wp2_with (first | (go_at_call 28; refine (raw_any _ _ _ b0.1 b0.2).mono ?_; rintro e w' ⟨rfl, rfl⟩) | (go_at_call 39; go_in))
        go_ret
        exact ⟨rfl, Below.refl _ _⟩
  · go_enter Try.func9, Try.ntmps9
    go_wp2_with (first | (go_at_call 39; go_in))
    go_ret
    exact ⟨rfl, Below.refl _ _⟩

/-! ### The row's step (frame) -/
set_option maxRecDepth 100000 in
theorem lifted (os : Os) (started : os.Started) (H : Type) (enc : TypeId × Value → H) :
    ReturnsInHanded {} Try.checked os 9 .any (Rows.fnCommentEndAfterPosSpec.pre6 enc Try.prog Try.f9 Rows.fnCommentEndAfterPosRow.domain false) (Rows.fnCommentEndAfterPosSpec.post enc Try.prog Try.f9 false true false false) := by
  refine returnsInHanded_of_change (C := Try.checked) own started (by kernel_rfl) Try.func9
    (ChangeSpec.witness6 (enc := enc) (C := Try.checked) false ⟨#[], #[.int .u32 0, .int .u32 0, .string ByteArray.empty], []⟩ 8 (by kernel_rfl) (by kernel_rfl) (by kernel_rfl) (by kernel_rfl)) ?_
  intro W base args ds gs before hval0 hW hcnd _
  have hval : ∀ (j : Nat) t v, Try.f9.params[j]? = some t → args[j]? = some v → Value.okWide Try.prog W .any base t v := hval0
  have hW' := hW
  obtain ⟨p, q, hA0, hV, rfl, hfz, hnd⟩ := hW
  have hA : DataW.TrodAll enc Try.prog W 0 (fun _ => true) true Try.f9.params.toList args.toList ds p := hA0
  rw [Try.params9] at hA hval
  obtain ⟨v0, vs0, d0, ds0, p0, q0, hargs, rfl, rfl, h0, r0⟩ := trodAll_cons hA
  obtain ⟨v1, vs1, d1, ds1, p1, q1, rfl, rfl, rfl, h1, r1⟩ := trodAll_cons r0
  obtain ⟨v2, vs2, d2, ds2, p2, q2, rfl, rfl, rfl, h2, r2⟩ := trodAll_cons r1
  obtain ⟨rfl, rfl, rfl⟩ := trodAll_nil r2
  obtain rfl : args = #[v0, v1, v2] := by cases args; simp_all
  obtain ⟨rfl, rfl⟩ := trodVars_none hV
  obtain ⟨a0, rfl, rfl, rfl, w0⟩ := open_int Try.underlying22 (hval 0 22 v0 rfl rfl) h0
  obtain ⟨a1, rfl, rfl, rfl, w1⟩ := open_int Try.underlying22 (hval 1 22 v1 rfl rfl) h1
  obtain ⟨a2, rfl, rfl, rfl, w2⟩ := open_string Try.underlying9 (hval 2 9 v2 rfl rfl) h2
  clear hA0 hval0
  refine (walk a0 a1 a2 W w0 w1 w2).mono fun e W' ⟨he, bel⟩ => ?_
  subst he
  exact ⟨_, rfl, _, _, _, [], _, [], hW', trodAll_mk1 (shut_bool Try.underlying4 _), (trodAll_cons_mk (shut_int Try.underlying22 w0) (trodAll_cons_mk (shut_int Try.underlying22 w1) (trodAll_cons_mk (shut_string Try.underlying9 w2) trodAll_mk0))), rfl, bel.frame _, fun h => by cases h⟩

theorem over : Rows.fnCommentEndAfterPosRow.holds Try.pinned (OpenSpec.ofChange Rows.fnCommentEndAfterPosSpec) :=
  OpenClaim.holds_of_wide 9 Try.f9 rfl rfl rfl rfl rfl rfl rfl ⟨rfl, rfl, rfl, rfl, rfl⟩ rfl rfl rfl rfl rfl (by kernel_rfl) Try.func9 (by kernel_rfl)
    (of_decide_eq_true (by kernel_rfl)) (by unfold Func.isWrapper; first | (rw [if_pos (by decide +kernel)]; kernel_rfl) | (rw [if_neg (by decide +kernel)]; exact ⟨rfl, rfl⟩))
    (fun os started H enc _ => lifted os started H enc)

/-- The statement. -/
theorem proved : Rows.FnCommentEndAfterPosSaid := over
#print axioms proved
end Go.Proofs.Ytngbfadnmeohnaa.fnCommentEndAfterPos
