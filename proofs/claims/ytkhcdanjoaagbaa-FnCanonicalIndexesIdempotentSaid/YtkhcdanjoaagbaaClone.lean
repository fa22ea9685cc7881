/-
  What zzCloneInts_b1 does: nil stays nil; else a new row with the same numbers; nothing that was there changes. Condition: at most 2^20 elements.
-/
import Derived.Test.YtkhcdanjoaagbaaRows
import Derived.Test.YtkhcdanjoaagbaaOwn
import Derived.Lib.SliceRun
namespace Go.Proofs.Ytkhcdanjoaagbaa.clone
open Go.RowKit Go.Proofs.Ytkhcdanjoaagbaa.own
theorem cloneI_info : (Try.prog.info? 3).map (fun i => (i.zero, i.size, i.bytes)) = some (some (.int .i64 0), 1, 8) := by kernel_rfl
theorem cloneI_nil (w : World) : Calls Try.prog 20 #[.slice none 0 0] w fun e w' => e = .returned (.slice none 0 0) ∧ w = w' := by
  have hq := fun w => Lib.run_eql_slice_nil (P := Try.prog) w 36 3 none 0 0 0 0 Try.underlying36
  go_enter Try.func20, Try.ntmps20
  go_wp2
  go_ret
  exact ⟨rfl, rfl⟩
theorem cloneI_empty (a : Addr) (cap : Nat) (w : World) : Calls Try.prog 20 #[.slice (some a) 0 cap] w fun e w' => e = .returned (.slice (some ⟨w.heap.size, 0, none⟩) 0 0) ∧ Below w.heap.size w w' := by
  have hq := fun w => Lib.run_eql_slice_nil (P := Try.prog) w 36 3 (some a) 0 cap 0 0 Try.underlying36
  obtain ⟨i0, hi, hz0, hz1, hz2⟩ := info_parts cloneI_info
  go_enter Try.func20, Try.ntmps20
  go_wp2_with (at_make; refine wpList_make_full _ rfl _ _ 36 rfl w.heap.size 3 i0 (.int .i64 0) 1 Try.underlying36 hi hz0 hz1 .i64 .i64 _ _ 0 rfl rfl ?c0 ?c1 ?c2 ?c3 ?c4 ?_)
  case c0 => rfl
  case c1 => rfl
  case c2 => rw [hz2]; omega
  case c3 => unfold maxLen; omega
  case c4 => exact Nat.le_refl _
  intro w1 hown hgrow
  have HB := Lib.hid (show Below w.heap.size w w1 from (Below.refl _ _).grown hgrow (Nat.le_refl _) (fun k h => by cases h))
  clear hown hgrow
  go_wp2
  refine wp_loop_rounds 1 ?_
  rw [rounds_succ]
  go_wp2
  go_ret
  exact ⟨rfl, HB.out⟩
set_option maxHeartbeats 1000000 in
theorem cloneI_row (b off n cap : Nat) (f : Nat → Int) (w : World) (hn : n ≤ 1048576) (hc : ∀ i, i < n → w.cell? ⟨b, off + i, none⟩ = some (.int .i64 (f i))) :
    Calls Try.prog 20 #[.slice (some ⟨b, off, none⟩) n cap] w fun e w' => e = .returned (.slice (some ⟨w.heap.size, 0, none⟩) n n) ∧
      w'.ownsRow w.heap.size 3 1 (.slice (some ⟨w.heap.size, 0, none⟩) n n) n (intsV .i64 f n) ∧ Below w.heap.size w w' := by
  have hq := fun w => Lib.run_eql_slice_nil (P := Try.prog) w 36 3 (some ⟨b, off, none⟩) n cap 0 0 Try.underlying36
  obtain ⟨i0, hi, hz0, hz1, hz2⟩ := info_parts cloneI_info
  have HC := Lib.hid hc
  have HL := Lib.hid (intsV_length .i64 f n)
  clear hc
  go_enter Try.func20, Try.ntmps20
  go_wp2_with (at_make; refine wpList_make_full _ rfl _ _ 36 rfl w.heap.size 3 i0 (.int .i64 0) 1 Try.underlying36 hi hz0 hz1 .i64 .i64 _ _ n rfl rfl ?c0 ?c1 ?c2 ?c3 ?c4 ?_)
  case c0 => rfl
  case c1 => rfl
  case c2 => rw [hz2]; omega
  case c3 => unfold maxLen; omega
  case c4 => exact Nat.le_refl _
  intro w1 hown hgrow
  have HR := Lib.hid (Filling.start (vs := intsV .i64 f n) (z := .int .i64 0) HL.out (Below.refl w.heap.size w) (Nat.le_refl _) hown hgrow)
  clear hown hgrow
  go_wp2
  go_loopw [4] (fun i wr => ∃ j : Nat, j ≤ n ∧ i = .int .i64 j ∧ Filling w.heap.size w.heap.size 3 (intsV .i64 f n) (.int .i64 0) w j wr) (fun i _ => n - (intOf i).toNat)
  case atStart => exact ⟨0, by omega, rfl, HR.out⟩
  case round =>
    obtain ⟨j, hj, rfl, hr⟩ := hrel
    have H := Lib.hid hr
    clear hr HR
    by_cases hlt : j < n
    · have c0 := H.out.cell (by rw [HL.out]; exact hlt)
      have f0 := H.out.free
      have l0 := cb H.out.2.1 (by exact cell_lt (HC.out j hlt)) (HC.out j hlt)
      have R := Lib.hid (H.out.store (Nat.le_refl _) (.int .i64 (f j)) (intsV_get .i64 f n j hlt))
      go_wp2
      go_roundw
      case rel => exact ⟨j + 1, by omega, by go_num, R.out⟩
      case measure => simp [intOf]; omega
    · obtain rfl : j = n := by omega
      have HD := Lib.hid (show wr.ownsRow w.heap.size 3 1 (.slice (some ⟨w.heap.size, 0, none⟩) j j) j (intsV .i64 f j) by
        have h := H.out
        have h' : Filling w.heap.size w.heap.size 3 (intsV .i64 f j) (.int .i64 0) w (intsV .i64 f j).length wr := by rw [HL.out]; exact h
        have h2 := h'.done
        rw [HL.out] at h2; exact h2)
      go_wp2
      go_ret
      exact ⟨rfl, HD.out, H.out.2.1⟩

end Go.Proofs.Ytkhcdanjoaagbaa.clone
