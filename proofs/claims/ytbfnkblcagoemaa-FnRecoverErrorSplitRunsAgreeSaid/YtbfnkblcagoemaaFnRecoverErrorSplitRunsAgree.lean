/-
  For all ints done, maximum, a and b, FnRecoverErrorSplitRunsAgree returns true. No conditions.
  The frame round the walk was written by the kit's proof-skeleton.
-/
import Derived.Test.YtbfnkblcagoemaaRows
import Derived.WalkKit
import Derived.ProofKit
import Derived.OpenShut
import Derived.Test.YtbfnkblcagoemaaOwn
import Derived.Laws.Tables
import Derived.BigQuiet
import Derived.Deep.QuietTactic
import Derived.ShutString
import Derived.ChangeOld
import Derived.Below
namespace Go.Proofs.Ytbfnkblcagoemaa.fnRecoverErrorSplitRunsAgree
open Go.ChangeShapes Go.WideShapes Go.ChangeAt Go.RowKit
open Go.ChangeMaps (open_string shut_string)
set_option linter.unusedVariables false

open Go.Proofs.Ytbfnkblcagoemaa.own

theorem own : ownKnob Try.prog.godebug = none := by kernel_rfl
theorem laidOut : laidOutB Try.prog = true := by kernel_rfl

/-- WHAT THE WALK IS TOLD OF A SLICE OF INTEGERS THAT CAME IN: it is nil; or it leads to a row of 'cap' cells, the numbers 'zs' (the first 'len' are its elements, the rest its spare room), each fitting its kind. -/
def IsRow (k : IntKind) (w : World) (a : Option Addr) (len cap : Nat) (zs : List Int) : Prop :=
  (a = none ∧ len = 0 ∧ cap = 0 ∧ zs = []) ∨
  ∃ x, a = some x ∧ len ≤ cap ∧ cap ≤ maxLen ∧ zs.length = cap ∧ (∀ i, i < zs.length → w.cell? (x.add i) = some (.int k (zs.getD i 0))) ∧ ∀ n ∈ zs, (Lit.int k n).wf = true

/-! ### The walk -/
noncomputable def Z : Array Value := (((Try.prog.info? 81).getD default).zero.getD (.bool false)).cells
set_option maxRecDepth 100000 in
theorem Zsize : Z.size = 2088 := by kernel_rfl
set_option maxRecDepth 100000 in
theorem builtRec (d m : Int) : Try.prog.built 81 [(21, .int .i64 d), (22, .int .i64 m)] = some ((Z.setIfInBounds 22 (.int .i64 d)).setIfInBounds 23 (.int .i64 m)) := by kernel_rfl
theorem wpList_build_at {P : Program} {ops : Array Oper} {rest : List Oper} {o : Oper} {a : Act} {w : World} {Q : Exit → Act → World → Prop} (hg : o.guard = none) (t : TypeId) (parts : Array (Nat × Operand)) (ho : o.op = .build t parts)
    (vs : List (Nat × Value)) (hv : (parts.map fun (i, x) => (i, a.eval x)).toList = vs) (cells : Array Value) (hb : P.built t vs = some cells) (h : wpList P ops Q rest (a.put o.dst (.agg cells)) w) : wpList P ops Q (o :: rest) a w :=
  wpList_build hg t parts ho (by rw [hv, hb]; rfl) (by rw [hv, hb]; exact h)
/-- block b is a parser with d errors recovered out of m; below b nothing has changed since w0 -/
def Par (b : Nat) (w0 : World) (d m : Int) (wr : World) : Prop :=
  wr.cell? ⟨b, 22, none⟩ = some (.int .i64 d) ∧ wr.cell? ⟨b, 23, none⟩ = some (.int .i64 m) ∧ wr.frozen? ⟨b, 22, none⟩ = false ∧ Below b w0 wr ∧ b < wr.heap.size
def NewPost (d m : Int) (w : World) (e : Ending) (w' : World) : Prop := e = .returned (.pointer (some ⟨w.heap.size, 0, none⟩)) ∧ Par w.heap.size w d m w'
theorem new_end (A : Array Value) (w : World) (d m : Int) (h1 : A[22]? = some (.int .i64 d)) (h2 : A[23]? = some (.int .i64 m)) : NewPost d m w (.returned (.pointer (some ⟨w.heap.size, 0, none⟩))) (w.alloc (.cells A 81)) := by
  refine ⟨rfl, ?_, ?_, World.frozen?_alloc_at _ _ _ _ rfl, (Below.refl _ _).alloc (Nat.le_refl _) _, by simp⟩
  · rw [World.cell?_alloc_at _ _ _ _ rfl]; exact h1
  · rw [World.cell?_alloc_at _ _ _ _ rfl]; exact h2
set_option maxRecDepth 100000 in
theorem newRec0 (d m : Int) (w : World) (A : Array Value) (hb : Try.prog.built 81 [(21, .int .i64 d), (22, .int .i64 m)] = some A) :
    Calls Try.prog 31 #[.int .i64 d, .int .i64 m] w fun e w' => e = .returned (.pointer (some ⟨w.heap.size, 0, none⟩)) ∧ w.alloc (.cells A 81) = w' := by
  have HB := Lib.hid hb
  clear hb
  go_enter Try.func31, Try.ntmps31
  iterate 17 go_step
  refine wpList_build_at rfl 81 _ rfl [(21, .int .i64 d), (22, .int .i64 m)] (by simp [go_sem]) A HB.out ?_
  go_wp2
  go_ret
  exact ⟨rfl, rfl⟩
theorem newRec (d m : Int) (w : World) : Calls Try.prog 31 #[.int .i64 d, .int .i64 m] w (NewPost d m w) := by
  refine (newRec0 d m w _ (builtRec d m)).mono ?_
  rintro e w' ⟨rfl, rfl⟩
  exact new_end _ w d m (by simp [Zsize]) (by simp [Zsize])
theorem Par_drewN {b : Nat} {w0 : World} {d m : Int} {wr : World} (h : Par b w0 d m wr) (n : Nat) : Par b w0 d m (wr.drewN n) :=
  ⟨h.1, h.2.1, h.2.2.1, ⟨h.2.2.2.1.os, h.2.2.2.1.tape, h.2.2.2.1.output, h.2.2.2.1.size, h.2.2.2.1.block⟩, h.2.2.2.2⟩
theorem Par_set {b : Nat} {w0 : World} {d m : Int} {wr : World} (h : Par b w0 d m wr) (d' : Int) : Par b w0 d' m (wr.setCell ⟨b, 22, none⟩ (.int .i64 d')) := by
  obtain ⟨h1, h2, h3, h4, h5⟩ := h
  refine ⟨World.cell?_setCell_same _ _ _ h1, (World.cell?_setCell_other _ _ _ _ (by simp)).trans h2, (World.frozen?_setCell _ _ _ _).trans h3, h4.setCell (Nat.le_refl _) _, by simpa [World.setCell] using h5⟩
set_option maxHeartbeats 1000000 in
theorem rec_yes (b : Nat) (w0 : World) (d m : Int) (w : World) (h : Par b w0 d m w) (h0 : 0 ≤ d) (h1 : d < m) (h2 : m ≤ 9223372036854775807) :
    Calls Try.prog 32 #[.pointer (some ⟨b, 0, none⟩)] w fun e w' => e = .returned (.bool true) ∧ Par b w0 (d + 1) m w' := by
  have c1 := h.1
  have c2 := h.2.1
  have c3 := h.2.2.1
  have H := Lib.hid h
  clear h
  go_enter Try.func32, Try.ntmps32
  go_wp2
  go_quiet (fail)
  go_wp2
  go_ret
  exact ⟨rfl, by first | exact Par_set (Par_drewN H.out _) (d + 1) | exact Par_drewN (Par_set H.out (d + 1)) _⟩
set_option maxHeartbeats 1000000 in
theorem rec_no (b : Nat) (w0 : World) (d m : Int) (w : World) (h : Par b w0 d m w) (h1 : m ≤ d) :
    Calls Try.prog 32 #[.pointer (some ⟨b, 0, none⟩)] w fun e w' => e = .returned (.bool false) ∧ Par b w0 d m w' := by
  have c1 := h.1
  have c2 := h.2.1
  have H := Lib.hid h
  have t0 : decide (d < m) = false := by simp; omega
  clear h
  go_enter Try.func32, Try.ntmps32
  go_wp2
  go_quiet (fail)
  go_wp2
  go_ret
  exact ⟨rfl, Par_drewN H.out _⟩
theorem getRec (b : Nat) (d : Int) (w : World) (hc : w.cell? ⟨b, 22, none⟩ = some (.int .i64 d)) :
    Calls Try.prog 33 #[.pointer (some ⟨b, 0, none⟩)] w fun e w' => e = .returned (.int .i64 d) ∧ w = w' := by
  go_enter Try.func33, Try.ntmps33
  go_wp2
  go_ret
  exact ⟨rfl, rfl⟩

/-! ### plain: how many of the first i calls are granted -/
def gr (d m i : Int) : Int := if m ≤ d then 0 else if i ≤ m - d then i else m - d
theorem gr_yes (d m i : Int) (h : d + gr d m i < m) (_hi : 0 ≤ i) : gr d m (i + 1) = gr d m i + 1 := by
  unfold gr at *; (repeat' split at *) <;> omega
theorem gr_no (d m i : Int) (h : m ≤ d + gr d m i) (_hi : 0 ≤ i) : gr d m (i + 1) = gr d m i := by
  unfold gr at *; (repeat' split at *) <;> omega
theorem gr_zero (d m : Int) : gr d m 0 = 0 := by unfold gr; (repeat' split) <;> omega
theorem gr_bd (d m i : Int) (h : 0 ≤ i) : 0 ≤ gr d m i ∧ gr d m i ≤ i := by unfold gr; (repeat' split) <;> omega
set_option maxHeartbeats 2000000 in
theorem main (d m : Int) (a b : Nat) (w : World) (h0 : 0 ≤ d) (h1 : d ≤ 9223372036854775807) (h2 : m ≤ 9223372036854775807) (ha : a ≤ 32768) (hb : b ≤ 32768) (hg : (decide (m < d) && (d != 0)) = false) :
    Calls Try.prog 8 #[.int .i64 d, .int .i64 m, .int .i64 a, .int .i64 b] w fun e w' => e = .returned (.bool true) ∧ Below w.heap.size w w' := by
  by_cases hmd : m < d
  · have hd0 : (d != 0) = false := by simpa [hmd] using hg
    clear hg
    go_enter Try.func8, Try.ntmps8
    go_wp2_with fail
    refine (newRec d m _).mono ?_
    rintro e w1 ⟨rfl, hp⟩
    have HP1 := Lib.hid hp
    clear hp
    go_wp2_with fail
    go_loopw [10, 11] (fun x i wr => ∃ k : Nat, k ≤ a ∧ x = .int .i64 (gr d m (k : Int)) ∧ i = .int .i64 k ∧ Par w.heap.size w (d + gr d m (k : Int)) m wr) (fun _ i _ => a - (intOf i).toNat)
    case atStart => exact ⟨0, by omega, by simp [gr_zero], rfl, by simp [gr_zero]; exact HP1.out⟩
    case round =>
      obtain ⟨k, hk, rfl, rfl, hr⟩ := hrel
      have H := Lib.hid hr
      clear hr
      have hgb := gr_bd d m (k : Int) (by omega)
      by_cases hlt : k < a
      · by_cases hy : d + gr d m (k : Int) < m
        · exact absurd hy (by omega)
        · have HN := Lib.hid (gr_no d m (k : Int) (by omega) (by omega))
          go_wp2_with fail
          refine (rec_no w.heap.size w _ _ _ H.out (by omega)).mono ?_
          rintro e w9 ⟨rfl, hp⟩
          have HP := Lib.hid hp
          clear hp
          go_wp2_with fail
          go_roundw
          case rel => exact ⟨k + 1, by omega, by rw [show ((((k + 1 : Nat) : Int) :) : Int) = (k : Int) + 1 by omega, HN.out], by go_num, by rw [show ((((k + 1 : Nat) : Int) :) : Int) = (k : Int) + 1 by omega, HN.out]; exact HP.out⟩
          case measure => simp [intOf]; omega
      · obtain rfl : k = a := by omega
        obtain ⟨wo, rfl⟩ : ∃ wo : World, wo = wr := ⟨_, rfl⟩
        clear HP1 hgb
        have HO := H
        clear H
        go_wp2_with fail
        go_loopw [10, 12] (fun x i wr => ∃ j : Nat, j ≤ b ∧ x = .int .i64 (gr d m ((k : Int) + (j : Int))) ∧ i = .int .i64 j ∧ Par w.heap.size w (d + gr d m ((k : Int) + (j : Int))) m wr) (fun _ i _ => b - (intOf i).toNat)
        case atStart => exact ⟨0, by omega, by simp, rfl, by simpa using HO.out⟩
        case round =>
          obtain ⟨j, hj, rfl, rfl, hr⟩ := hrel
          have H := Lib.hid hr
          clear hr
          have hgb := gr_bd d m ((k : Int) + (j : Int)) (by omega)
          by_cases hlt2 : j < b
          · by_cases hy : d + gr d m ((k : Int) + (j : Int)) < m
            · exact absurd hy (by omega)
            · have HN := Lib.hid (gr_no d m ((k : Int) + (j : Int)) (by omega) (by omega))
              go_wp2_with fail
              refine (rec_no w.heap.size w _ _ _ H.out (by omega)).mono ?_
              rintro e w9 ⟨rfl, hp⟩
              have HP := Lib.hid hp
              clear hp
              go_wp2_with fail
              go_roundw
              case rel => exact ⟨j + 1, by omega, by rw [show ((k : Int) + ((j + 1 : Nat) : Int)) = ((k : Int) + (j : Int)) + 1 by omega, HN.out], by go_num, by rw [show ((k : Int) + ((j + 1 : Nat) : Int)) = ((k : Int) + (j : Int)) + 1 by omega, HN.out]; exact HP.out⟩
              case measure => simp [intOf]; omega
          · obtain rfl : j = b := by omega
            obtain ⟨wo2, rfl⟩ : ∃ wo2 : World, wo2 = wr := ⟨_, rfl⟩
            have HO2 := H
            clear H HO hgb
            go_wp2_with fail
            refine (newRec d m _).mono ?_
            rintro e w1 ⟨rfl, hp⟩
            have HQ := Lib.hid hp
            clear hp
            go_wp2_with fail
            go_loopw [14, 15] (fun x y wr => ∃ i : Nat, i ≤ k + j ∧ x = .int .i64 (gr d m (i : Int)) ∧ y = .int .i64 i ∧ Par wo2.heap.size wo2 (d + gr d m (i : Int)) m wr) (fun _ y _ => k + j - (intOf y).toNat)
            case atStart => exact ⟨0, by omega, by simp [gr_zero], rfl, by simp [gr_zero]; exact HQ.out⟩
            case round =>
              obtain ⟨i, hi, rfl, rfl, hr⟩ := hrel
              have H := Lib.hid hr
              clear hr
              have hgb := gr_bd d m (i : Int) (by omega)
              by_cases hlt3 : i < k + j
              · by_cases hy : d + gr d m (i : Int) < m
                · exact absurd hy (by omega)
                · have HN := Lib.hid (gr_no d m (i : Int) (by omega) (by omega))
                  go_wp2_with fail
                  refine (rec_no wo2.heap.size wo2 _ _ _ H.out (by omega)).mono ?_
                  rintro e w9 ⟨rfl, hp⟩
                  have HP := Lib.hid hp
                  clear hp
                  go_wp2_with fail
                  go_roundw
                  case rel => exact ⟨i + 1, by omega, by rw [show (((i + 1 : Nat) : Int)) = (i : Int) + 1 by omega, HN.out], by go_num, by rw [show (((i + 1 : Nat) : Int)) = (i : Int) + 1 by omega, HN.out]; exact HP.out⟩
                  case measure => simp [intOf]; omega
              · have hij : (i : Int) = (k : Int) + (j : Int) := by omega
                have hq := H.out.1
                rw [hij] at hq
                have hpc := (H.out.2.2.2.1.cell (p := ⟨w.heap.size, 22, none⟩) HO2.out.2.2.2.2).trans HO2.out.1
                have hge : gr d m (i : Int) = gr d m ((k : Int) + (j : Int)) := by rw [hij]
                have HB := Lib.hid (show Below w.heap.size w wr from HO2.out.2.2.2.1.trans (H.out.2.2.2.1.mono (Nat.le_of_lt HO2.out.2.2.2.2)))
                clear hij hgb
                go_wp2_with (go_at_call 33; first | ((with_reducible refine (getRec w.heap.size _ _ hpc).mono ?_); rintro e w' ⟨rfl, rfl⟩) | ((with_reducible refine (getRec wo2.heap.size _ _ hq).mono ?_); rintro e w' ⟨rfl, rfl⟩))
                go_ret
                exact ⟨ret_bool (by first | rfl | simp), HB.out⟩
  · clear hg
    go_enter Try.func8, Try.ntmps8
    go_wp2_with fail
    refine (newRec d m _).mono ?_
    rintro e w1 ⟨rfl, hp⟩
    have HP1 := Lib.hid hp
    clear hp
    go_wp2_with fail
    go_loopw [10, 11] (fun x i wr => ∃ k : Nat, k ≤ a ∧ x = .int .i64 (gr d m (k : Int)) ∧ i = .int .i64 k ∧ Par w.heap.size w (d + gr d m (k : Int)) m wr) (fun _ i _ => a - (intOf i).toNat)
    case atStart => exact ⟨0, by omega, by simp [gr_zero], rfl, by simp [gr_zero]; exact HP1.out⟩
    case round =>
      obtain ⟨k, hk, rfl, rfl, hr⟩ := hrel
      have H := Lib.hid hr
      clear hr
      have hgb := gr_bd d m (k : Int) (by omega)
      by_cases hlt : k < a
      · by_cases hy : d + gr d m (k : Int) < m
        · have HN := Lib.hid (gr_yes d m (k : Int) hy (by omega))
          go_wp2_with fail
          refine (rec_yes w.heap.size w _ _ _ H.out (by omega) hy h2).mono ?_
          rintro e w9 ⟨rfl, hp⟩
          have HP := Lib.hid hp
          clear hp
          go_wp2_with fail
          go_roundw
          case rel => exact ⟨k + 1, by omega, by rw [show ((((k + 1 : Nat) : Int) :) : Int) = (k : Int) + 1 by omega, HN.out], by go_num, by rw [show ((((k + 1 : Nat) : Int) :) : Int) = (k : Int) + 1 by omega, HN.out, ← Int.add_assoc]; exact HP.out⟩
          case measure => simp [intOf]; omega
        · have HN := Lib.hid (gr_no d m (k : Int) (by omega) (by omega))
          go_wp2_with fail
          refine (rec_no w.heap.size w _ _ _ H.out (by omega)).mono ?_
          rintro e w9 ⟨rfl, hp⟩
          have HP := Lib.hid hp
          clear hp
          go_wp2_with fail
          go_roundw
          case rel => exact ⟨k + 1, by omega, by rw [show ((((k + 1 : Nat) : Int) :) : Int) = (k : Int) + 1 by omega, HN.out], by go_num, by rw [show ((((k + 1 : Nat) : Int) :) : Int) = (k : Int) + 1 by omega, HN.out]; exact HP.out⟩
          case measure => simp [intOf]; omega
      · obtain rfl : k = a := by omega
        obtain ⟨wo, rfl⟩ : ∃ wo : World, wo = wr := ⟨_, rfl⟩
        clear HP1 hgb
        have HO := H
        clear H
        go_wp2_with fail
        go_loopw [10, 12] (fun x i wr => ∃ j : Nat, j ≤ b ∧ x = .int .i64 (gr d m ((k : Int) + (j : Int))) ∧ i = .int .i64 j ∧ Par w.heap.size w (d + gr d m ((k : Int) + (j : Int))) m wr) (fun _ i _ => b - (intOf i).toNat)
        case atStart => exact ⟨0, by omega, by simp, rfl, by simpa using HO.out⟩
        case round =>
          obtain ⟨j, hj, rfl, rfl, hr⟩ := hrel
          have H := Lib.hid hr
          clear hr
          have hgb := gr_bd d m ((k : Int) + (j : Int)) (by omega)
          by_cases hlt2 : j < b
          · by_cases hy : d + gr d m ((k : Int) + (j : Int)) < m
            · have HN := Lib.hid (gr_yes d m ((k : Int) + (j : Int)) hy (by omega))
              go_wp2_with fail
              refine (rec_yes w.heap.size w _ _ _ H.out (by omega) hy h2).mono ?_
              rintro e w9 ⟨rfl, hp⟩
              have HP := Lib.hid hp
              clear hp
              go_wp2_with fail
              go_roundw
              case rel => exact ⟨j + 1, by omega, by rw [show ((k : Int) + ((j + 1 : Nat) : Int)) = ((k : Int) + (j : Int)) + 1 by omega, HN.out], by go_num, by rw [show ((k : Int) + ((j + 1 : Nat) : Int)) = ((k : Int) + (j : Int)) + 1 by omega, HN.out, ← Int.add_assoc]; exact HP.out⟩
              case measure => simp [intOf]; omega
            · have HN := Lib.hid (gr_no d m ((k : Int) + (j : Int)) (by omega) (by omega))
              go_wp2_with fail
              refine (rec_no w.heap.size w _ _ _ H.out (by omega)).mono ?_
              rintro e w9 ⟨rfl, hp⟩
              have HP := Lib.hid hp
              clear hp
              go_wp2_with fail
              go_roundw
              case rel => exact ⟨j + 1, by omega, by rw [show ((k : Int) + ((j + 1 : Nat) : Int)) = ((k : Int) + (j : Int)) + 1 by omega, HN.out], by go_num, by rw [show ((k : Int) + ((j + 1 : Nat) : Int)) = ((k : Int) + (j : Int)) + 1 by omega, HN.out]; exact HP.out⟩
              case measure => simp [intOf]; omega
          · obtain rfl : j = b := by omega
            obtain ⟨wo2, rfl⟩ : ∃ wo2 : World, wo2 = wr := ⟨_, rfl⟩
            have HO2 := H
            clear H HO hgb
            go_wp2_with fail
            refine (newRec d m _).mono ?_
            rintro e w1 ⟨rfl, hp⟩
            have HQ := Lib.hid hp
            clear hp
            go_wp2_with fail
            go_loopw [14, 15] (fun x y wr => ∃ i : Nat, i ≤ k + j ∧ x = .int .i64 (gr d m (i : Int)) ∧ y = .int .i64 i ∧ Par wo2.heap.size wo2 (d + gr d m (i : Int)) m wr) (fun _ y _ => k + j - (intOf y).toNat)
            case atStart => exact ⟨0, by omega, by simp [gr_zero], rfl, by simp [gr_zero]; exact HQ.out⟩
            case round =>
              obtain ⟨i, hi, rfl, rfl, hr⟩ := hrel
              have H := Lib.hid hr
              clear hr
              have hgb := gr_bd d m (i : Int) (by omega)
              by_cases hlt3 : i < k + j
              · by_cases hy : d + gr d m (i : Int) < m
                · have HN := Lib.hid (gr_yes d m (i : Int) hy (by omega))
                  go_wp2_with fail
                  refine (rec_yes wo2.heap.size wo2 _ _ _ H.out (by omega) hy h2).mono ?_
                  rintro e w9 ⟨rfl, hp⟩
                  have HP := Lib.hid hp
                  clear hp
                  go_wp2_with fail
                  go_roundw
                  case rel => exact ⟨i + 1, by omega, by rw [show (((i + 1 : Nat) : Int)) = (i : Int) + 1 by omega, HN.out], by go_num, by rw [show (((i + 1 : Nat) : Int)) = (i : Int) + 1 by omega, HN.out, ← Int.add_assoc]; exact HP.out⟩
                  case measure => simp [intOf]; omega
                · have HN := Lib.hid (gr_no d m (i : Int) (by omega) (by omega))
                  go_wp2_with fail
                  refine (rec_no wo2.heap.size wo2 _ _ _ H.out (by omega)).mono ?_
                  rintro e w9 ⟨rfl, hp⟩
                  have HP := Lib.hid hp
                  clear hp
                  go_wp2_with fail
                  go_roundw
                  case rel => exact ⟨i + 1, by omega, by rw [show (((i + 1 : Nat) : Int)) = (i : Int) + 1 by omega, HN.out], by go_num, by rw [show (((i + 1 : Nat) : Int)) = (i : Int) + 1 by omega, HN.out]; exact HP.out⟩
                  case measure => simp [intOf]; omega
              · have hij : (i : Int) = (k : Int) + (j : Int) := by omega
                have hq := H.out.1
                rw [hij] at hq
                have hpc := (H.out.2.2.2.1.cell (p := ⟨w.heap.size, 22, none⟩) HO2.out.2.2.2.2).trans HO2.out.1
                have hge : gr d m (i : Int) = gr d m ((k : Int) + (j : Int)) := by rw [hij]
                have HB := Lib.hid (show Below w.heap.size w wr from HO2.out.2.2.2.1.trans (H.out.2.2.2.1.mono (Nat.le_of_lt HO2.out.2.2.2.2)))
                clear hij hgb
                go_wp2_with (go_at_call 33; first | ((with_reducible refine (getRec w.heap.size _ _ hpc).mono ?_); rintro e w' ⟨rfl, rfl⟩) | ((with_reducible refine (getRec wo2.heap.size _ _ hq).mono ?_); rintro e w' ⟨rfl, rfl⟩))
                go_ret
                exact ⟨ret_bool (by first | rfl | simp), HB.out⟩
set_option maxHeartbeats 1000000 in
theorem walk (a0 : Int) (a1 : Int) (a2 : Int) (a3 : Int) (w : World) (w0 : (Lit.int .i64 a0).wf = true) (w1 : (Lit.int .i64 a1).wf = true) (w2 : (Lit.int .i64 a2).wf = true) (w3 : (Lit.int .i64 a3).wf = true) :
    Calls Try.prog 8 #[.int .i64 a0, .int .i64 a1, .int .i64 a2, .int .i64 a3] w fun e w' => e = .returned (.bool true) ∧ Below w.heap.size w w' := by
  have b0 := wf_i64 w0; have b1 := wf_i64 w1; have b2 := wf_i64 w2; have b3 := wf_i64 w3
  clear w0 w1 w2 w3
  by_cases k1 : a2 < 0
  · go_enter Try.func8, Try.ntmps8
    go_wp2
    go_ret
    exact ⟨rfl, Below.refl _ _⟩
  · by_cases k2 : 32768 < a2
    · go_enter Try.func8, Try.ntmps8
      go_wp2
      go_ret
      exact ⟨rfl, Below.refl _ _⟩
    · by_cases k3 : a3 < 0
      · go_enter Try.func8, Try.ntmps8
        go_wp2
        go_ret
        exact ⟨rfl, Below.refl _ _⟩
      · by_cases k4 : 32768 < a3
        · go_enter Try.func8, Try.ntmps8
          go_wp2
          go_ret
          exact ⟨rfl, Below.refl _ _⟩
        · by_cases k5 : a0 < 0
          · go_enter Try.func8, Try.ntmps8
            go_wp2
            go_ret
            exact ⟨rfl, Below.refl _ _⟩
          · obtain ⟨a, rfl⟩ := Int.eq_ofNat_of_zero_le (show 0 ≤ a2 by omega)
            obtain ⟨b, rfl⟩ := Int.eq_ofNat_of_zero_le (show 0 ≤ a3 by omega)
            by_cases k6 : a1 < a0
            · by_cases k7 : a0 = 0
              · exact main a0 a1 a b w (by omega) b0.2 b1.2 (by omega) (by omega) (by simp [k7])
              · have k7' : (a0 != 0) = true := by simpa using k7
                go_enter Try.func8, Try.ntmps8
                go_wp2
                go_ret
                exact ⟨rfl, Below.refl _ _⟩
            · exact main a0 a1 a b w (by omega) b0.2 b1.2 (by omega) (by omega) (by simp; omega)

/-! ### The row's step (frame) -/
set_option maxRecDepth 100000 in
theorem lifted (os : Os) (started : os.Started) (H : Type) (enc : TypeId × Value → H) :
    ReturnsInHanded {} Try.checked os 8 .any (Rows.fnRecoverErrorSplitRunsAgreeSpec.pre6 enc Try.prog Try.f8 Rows.fnRecoverErrorSplitRunsAgreeRow.domain false) (Rows.fnRecoverErrorSplitRunsAgreeSpec.post enc Try.prog Try.f8 false true false false) := by
  refine returnsInHanded_of_change (C := Try.checked) own started (by kernel_rfl) Try.func8
    (ChangeSpec.witness6 (enc := enc) (C := Try.checked) false ⟨#[], #[.int .i64 0, .int .i64 0, .int .i64 0, .int .i64 0], []⟩ 8 (by kernel_rfl) (by kernel_rfl) (by kernel_rfl) (by kernel_rfl)) ?_
  intro W base args ds gs before hval0 hW hcnd _
  have hval : ∀ (j : Nat) t v, Try.f8.params[j]? = some t → args[j]? = some v → Value.okWide Try.prog W .any base t v := hval0
  have hW' := hW
  obtain ⟨p, q, hA0, hV, rfl, hfz, hnd⟩ := hW
  have hA : DataW.TrodAll enc Try.prog W 0 (fun _ => true) true Try.f8.params.toList args.toList ds p := hA0
  rw [Try.params8] at hA hval
  obtain ⟨v0, vs0, d0, ds0, p0, q0, hargs, rfl, rfl, h0, r0⟩ := trodAll_cons hA
  obtain ⟨v1, vs1, d1, ds1, p1, q1, rfl, rfl, rfl, h1, r1⟩ := trodAll_cons r0
  obtain ⟨v2, vs2, d2, ds2, p2, q2, rfl, rfl, rfl, h2, r2⟩ := trodAll_cons r1
  obtain ⟨v3, vs3, d3, ds3, p3, q3, rfl, rfl, rfl, h3, r3⟩ := trodAll_cons r2
  obtain ⟨rfl, rfl, rfl⟩ := trodAll_nil r3
  obtain rfl : args = #[v0, v1, v2, v3] := by cases args; simp_all
  obtain ⟨rfl, rfl⟩ := trodVars_none hV
  obtain ⟨a0, rfl, rfl, rfl, w0⟩ := open_int Try.underlying3 (hval 0 3 v0 rfl rfl) h0
  obtain ⟨a1, rfl, rfl, rfl, w1⟩ := open_int Try.underlying3 (hval 1 3 v1 rfl rfl) h1
  obtain ⟨a2, rfl, rfl, rfl, w2⟩ := open_int Try.underlying3 (hval 2 3 v2 rfl rfl) h2
  obtain ⟨a3, rfl, rfl, rfl, w3⟩ := open_int Try.underlying3 (hval 3 3 v3 rfl rfl) h3
  clear hA0 hval0
  refine (walk a0 a1 a2 a3 W w0 w1 w2 w3).mono fun e W' ⟨he, bel⟩ => ?_
  subst he
  exact ⟨_, rfl, _, _, _, [], _, [], hW', trodAll_mk1 (shut_bool Try.underlying4 _), (trodAll_cons_mk (shut_int Try.underlying3 w0) (trodAll_cons_mk (shut_int Try.underlying3 w1) (trodAll_cons_mk (shut_int Try.underlying3 w2) (trodAll_cons_mk (shut_int Try.underlying3 w3) trodAll_mk0)))), rfl, bel.frame _, fun h => by cases h⟩

theorem over : Rows.fnRecoverErrorSplitRunsAgreeRow.holds Try.pinned (OpenSpec.ofChange Rows.fnRecoverErrorSplitRunsAgreeSpec) :=
  OpenClaim.holds_of_wide 8 Try.f8 rfl rfl rfl rfl rfl rfl rfl ⟨rfl, rfl, rfl, rfl, rfl⟩ rfl rfl rfl rfl rfl (by kernel_rfl) Try.func8 (by kernel_rfl)
    (of_decide_eq_true (by kernel_rfl)) (by unfold Func.isWrapper; first | (rw [if_pos (by decide +kernel)]; kernel_rfl) | (rw [if_neg (by decide +kernel)]; exact ⟨rfl, rfl⟩))
    (fun os started H enc _ => lifted os started H enc)

/-- The statement. -/
theorem proved : Rows.FnRecoverErrorSplitRunsAgreeSaid := over
#print axioms proved
end Go.Proofs.Ytbfnkblcagoemaa.fnRecoverErrorSplitRunsAgree
