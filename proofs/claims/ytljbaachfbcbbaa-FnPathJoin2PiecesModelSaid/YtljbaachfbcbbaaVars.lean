/-
  Contracts of the functions that the laws on expand.Variable call: bounds on sizes, copies of slices, mkVar, IsSet, Declared. No condition beyond what each contract states.
-/
import Derived.Test.YtljbaachfbcbbaaOwn
import Derived.Test.YtljbaachfbcbbaaChecked
import Derived.BigQuiet
import Derived.Deep.QuietTactic
import Derived.WalkSpells
namespace Go.Proofs.Ytljbaachfbcbbaa.vars
open Go.ChangeShapes Go.WideShapes Go.ChangeAt Go.RowKit
open Go.Proofs.Ytljbaachfbcbbaa.own
set_option linter.unusedVariables false

/-- it answers a bool that fits, and leaves the world alone -/
def Ans (P : Bool → Prop) (w : World) (e : Ending) (w' : World) : Prop := ∃ b : Bool, P b ∧ e = .returned (.bool b) ∧ w = w'
/-- a slice of n strings f that can be read -/
def SR (w : World) (a : Option Addr) (n : Nat) (f : Nat → ByteArray) : Prop :=
  n = 0 ∨ ∃ b off, a = some ⟨b, off, none⟩ ∧ ∀ i, i < n → w.cell? ⟨b, off + i, none⟩ = some (.string (f i)) ∧ (f i).size ≤ 9223372036854775807

def Lim (n n7 : Nat) (b : Bool) : Prop := b = false → n ≤ 131072 ∧ n7 ≤ 131072
theorem row_at {w : World} {x : Addr} {n : Nat} {F : Nat → Value} (h : ∀ i, i < n → w.cell? (x.add i) = some (F i)) (hn : 0 < n) : ∃ b off, x = ⟨b, off, none⟩ ∧ ∀ i, i < n → w.cell? ⟨b, off + i, none⟩ = some (F i) := by
  obtain ⟨b, off, spot⟩ := x
  have hc := h 0 hn
  have hspot : spot = none := by simpa [Addr.add] using World.cell?_spot hc
  subst hspot
  refine ⟨b, off, rfl, fun i hi => ?_⟩
  have hadd : (⟨b, off, none⟩ : Addr).add i = ⟨b, off + i, none⟩ := by unfold Addr.add; split <;> simp_all
  rw [← hadd]; exact h i hi
set_option maxHeartbeats 1000000 in
set_option maxHeartbeats 1000000 in
theorem zz7 (v0 v1 v2 v3 v4 : Value) (s : ByteArray) (a7 : Option Addr) (n7 c7 : Nat) (a : Option Addr) (n c : Nat) (f : Nat → ByteArray) (w : World) (hs : s.size ≤ maxLen) (hn7 : n7 ≤ maxLen) (hn : n ≤ maxLen) (h : SR w a n f) :
    Calls Try.prog 7 #[v0, v1, v2, v3, v4, .string s, .slice a n c, .slice a7 n7 c7] w (Ans (fun _ => True) w) := by
  unfold maxLen at *
  have HS := Lib.hid h
  clear h
  go_enter Try.func7, Try.ntmps7
  go_wp2
  all_goals (try (go_ret; exact ⟨_, trivial, rfl, rfl⟩))
  go_loop [17, 18] (fun z i => ∃ (t : Int) (k : Nat), 0 ≤ t ∧ t ≤ 1048576 * 18 ∧ k ≤ n ∧ z = .int .i64 t ∧ i = .int .i64 k) (fun _ i => n - (intOf i).toNat)
  case atStart => exact ⟨_, 0, by omega, by omega, by omega, rfl, rfl⟩
  case round =>
    obtain ⟨t, k, ht0, ht1, hk, rfl, rfl⟩ := hrel
    by_cases hlt : k < n
    · rcases HS.out with h0 | ⟨b, off, rfl, hc⟩
      · omega
      · obtain ⟨c1, c2⟩ := hc k hlt
        clear hc HS
        go_wp2
        all_goals (try (go_ret; exact ⟨_, trivial, rfl, rfl⟩))
        go_round
        case rel => exact ⟨_, k + 1, by omega, by omega, by omega, rfl, by go_num⟩
        case measure => simp [intOf]; omega
    · go_wp2
      all_goals (go_ret; exact ⟨_, trivial, rfl, rfl⟩)
set_option maxHeartbeats 1000000 in
theorem zz21 (v0 v1 v2 v3 v4 v8 : Value) (s : ByteArray) (a7 : Option Addr) (n7 c7 : Nat) (a : Option Addr) (n c : Nat) (f : Nat → ByteArray) (w : World) (hs : s.size ≤ maxLen) (hn7 : n7 ≤ maxLen) (hn : n ≤ maxLen) (h : SR w a n f) :
    Calls Try.prog 21 #[v0, v1, v2, v3, v4, .string s, .slice a n c, .slice a7 n7 c7, v8] w (Ans (fun _ => True) w) := by
  unfold maxLen at *
  have HS := Lib.hid h
  clear h
  go_enter Try.func21, Try.ntmps21
  go_wp2
  all_goals (try (go_ret; exact ⟨_, trivial, rfl, rfl⟩))
  go_loop [19, 20] (fun z i => ∃ (t : Int) (k : Nat), 0 ≤ t ∧ t ≤ 1048576 * 18 ∧ k ≤ n ∧ z = .int .i64 t ∧ i = .int .i64 k) (fun _ i => n - (intOf i).toNat)
  case atStart => exact ⟨_, 0, by omega, by omega, by omega, rfl, rfl⟩
  case round =>
    obtain ⟨t, k, ht0, ht1, hk, rfl, rfl⟩ := hrel
    by_cases hlt : k < n
    · rcases HS.out with h0 | ⟨b, off, rfl, hc⟩
      · omega
      · obtain ⟨c1, c2⟩ := hc k hlt
        clear hc HS
        go_wp2
        all_goals (try (go_ret; exact ⟨_, trivial, rfl, rfl⟩))
        go_round
        case rel => exact ⟨_, k + 1, by omega, by omega, by omega, rfl, by go_num⟩
        case measure => simp [intOf]; omega
    · go_wp2
      all_goals (go_ret; exact ⟨_, trivial, rfl, rfl⟩)
set_option maxHeartbeats 1000000 in
theorem zz19  (a : Option Addr) (n c : Nat) (f : Nat → ByteArray) (w : World)  (hn : n ≤ maxLen) (h : SR w a n f) :
    Calls Try.prog 19 #[.slice a n c] w (Ans (fun _ => True) w) := by
  unfold maxLen at *
  have HS := Lib.hid h
  clear h
  go_enter Try.func19, Try.ntmps19
  go_wp2
  all_goals (try (go_ret; exact ⟨_, trivial, rfl, rfl⟩))
  go_loop [3, 4] (fun z i => ∃ (t : Int) (k : Nat), 0 ≤ t ∧ t ≤ 1048576 * 18 ∧ k ≤ n ∧ z = .int .i64 t ∧ i = .int .i64 k) (fun _ i => n - (intOf i).toNat)
  case atStart => exact ⟨_, 0, by omega, by omega, by omega, rfl, rfl⟩
  case round =>
    obtain ⟨t, k, ht0, ht1, hk, rfl, rfl⟩ := hrel
    by_cases hlt : k < n
    · rcases HS.out with h0 | ⟨b, off, rfl, hc⟩
      · omega
      · obtain ⟨c1, c2⟩ := hc k hlt
        clear hc HS
        go_wp2
        all_goals (try (go_ret; exact ⟨_, trivial, rfl, rfl⟩))
        go_round
        case rel => exact ⟨_, k + 1, by omega, by omega, by omega, rfl, by go_num⟩
        case measure => simp [intOf]; omega
    · go_wp2
      all_goals (go_ret; exact ⟨_, trivial, rfl, rfl⟩)
set_option maxHeartbeats 1000000 in
theorem tooBig_in (s : ByteArray) (a7 : Option Addr) (n7 c7 : Nat) (a : Option Addr) (n c : Nat) (f : Nat → ByteArray) (w : World) (k1 : s.size ≤ 1048576) (k3 : n7 ≤ 131072) (hn : n ≤ 131072) (h : SR w a n f) :
    Calls Try.prog 8 #[.string s, .slice a n c, .slice a7 n7 c7] w (Ans (Lim n n7) w) := by
  have b1 : decide (1048576 < (s.size : Int)) = false := by simp; omega
  have b2 : decide (131072 < (n : Int)) = false := by simp; omega
  have b3 : decide (131072 < (n7 : Int)) = false := by simp; omega
  have HS := Lib.hid h
  clear h
  go_enter Try.func8, Try.ntmps8
  go_wp2
  all_goals (try (go_ret; exact ⟨_, (fun _ => ⟨by omega, by omega⟩), rfl, rfl⟩))
  go_loop [7, 8] (fun z i => ∃ (t : Int) (k : Nat), 0 ≤ t ∧ t ≤ 1048576 * 18 ∧ k ≤ n ∧ z = .int .i64 t ∧ i = .int .i64 k) (fun _ i => n - (intOf i).toNat)
  case atStart => exact ⟨_, 0, by omega, by omega, by omega, rfl, rfl⟩
  case round =>
    obtain ⟨t, k, ht0, ht1, hk, rfl, rfl⟩ := hrel
    by_cases hlt : k < n
    · rcases HS.out with h0 | ⟨b, off, rfl, hc⟩
      · omega
      · obtain ⟨c1, c2⟩ := hc k hlt
        clear hc HS
        go_wp2
        all_goals (try (go_ret; exact ⟨_, (fun _ => ⟨by omega, by omega⟩), rfl, rfl⟩))
        go_round
        case rel => exact ⟨_, k + 1, by omega, by omega, by omega, rfl, by go_num⟩
        case measure => simp [intOf]; omega
    · go_wp2
      all_goals (go_ret; exact ⟨_, (fun _ => ⟨by omega, by omega⟩), rfl, rfl⟩)
set_option maxHeartbeats 1000000 in
theorem tooBig (s : ByteArray) (a7 : Option Addr) (n7 c7 : Nat) (a : Option Addr) (n c : Nat) (f : Nat → ByteArray) (w : World) (hs : s.size ≤ maxLen) (hn7 : n7 ≤ maxLen) (hn : n ≤ maxLen) (h : SR w a n f) :
    Calls Try.prog 8 #[.string s, .slice a n c, .slice a7 n7 c7] w (Ans (Lim n n7) w) := by
  unfold maxLen at *
  have HS := Lib.hid h
  clear h
  by_cases k1 : s.size ≤ 1048576
  · by_cases k2 : n ≤ 131072
    · by_cases k3 : n7 ≤ 131072
      · exact tooBig_in s a7 n7 c7 a n c f w k1 k3 k2 HS.out
      · go_enter Try.func8, Try.ntmps8
        go_wp2
        go_ret
        exact ⟨_, (by intro hb; cases hb), rfl, rfl⟩
    · go_enter Try.func8, Try.ntmps8
      go_wp2
      go_ret
      exact ⟨_, (by intro hb; cases hb), rfl, rfl⟩
  · go_enter Try.func8, Try.ntmps8
    go_wp2
    go_ret
    exact ⟨_, (by intro hb; cases hb), rfl, rfl⟩
theorem cloneS_info : (Try.prog.info? 9).map (fun i => (i.zero, i.size, i.bytes)) = some (some (.string ⟨#[]⟩), 1, 16) := by kernel_rfl
theorem cloneS_nil (w : World) : Calls Try.prog 9 #[.slice none 0 0] w fun e w' => e = .returned (.slice none 0 0) ∧ w = w' := by
  have hq := fun w => Lib.run_eql_slice_nil (P := Try.prog) w 22 9 none 0 0 0 0 Try.underlying22
  go_enter Try.func9, Try.ntmps9
  go_wp2
  go_ret
  exact ⟨rfl, rfl⟩
theorem cloneS_empty (a : Addr) (cap : Nat) (w : World) : Calls Try.prog 9 #[.slice (some a) 0 cap] w fun e w' => e = .returned (.slice (some ⟨w.heap.size, 0, none⟩) 0 0) ∧ Below w.heap.size w w' := by
  have hq := fun w => Lib.run_eql_slice_nil (P := Try.prog) w 22 9 (some a) 0 cap 0 0 Try.underlying22
  obtain ⟨i0, hi, hz0, hz1, hz2⟩ := info_parts cloneS_info
  go_enter Try.func9, Try.ntmps9
  go_wp2_with (at_make; refine wpList_make_full _ rfl _ _ 22 rfl w.heap.size 9 i0 (.string ⟨#[]⟩) 1 Try.underlying22 hi hz0 hz1 .i64 .i64 _ _ 0 rfl rfl ?c0 ?c1 ?c2 ?c3 ?c4 ?_)
  case c0 => rfl
  case c1 => rfl
  case c2 => rw [hz2]; omega
  case c3 => unfold maxLen; omega
  case c4 => exact Nat.le_refl _
  intro w1 hown hgrow
  have HB := Lib.hid (show Below w.heap.size w w1 from (Below.refl _ _).grown hgrow (Nat.le_refl _) (fun k h => by cases h))
  clear hown hgrow
  go_wp2
  refine wp_loop_rounds 1 ?_
  rw [rounds_succ]
  go_wp2
  go_ret
  exact ⟨rfl, HB.out⟩
set_option maxHeartbeats 1000000 in
theorem cloneS_row (b off n cap : Nat) (f : Nat → ByteArray) (w : World) (hn : n ≤ 1048576) (hc : ∀ i, i < n → w.cell? ⟨b, off + i, none⟩ = some (.string (f i))) :
    Calls Try.prog 9 #[.slice (some ⟨b, off, none⟩) n cap] w fun e w' => e = .returned (.slice (some ⟨w.heap.size, 0, none⟩) n n) ∧
      w'.ownsRow w.heap.size 9 1 (.slice (some ⟨w.heap.size, 0, none⟩) n n) n (strsV f n) ∧ Below w.heap.size w w' := by
  have hq := fun w => Lib.run_eql_slice_nil (P := Try.prog) w 22 9 (some ⟨b, off, none⟩) n cap 0 0 Try.underlying22
  obtain ⟨i0, hi, hz0, hz1, hz2⟩ := info_parts cloneS_info
  have HC := Lib.hid hc
  have HL := Lib.hid (strsV_length f n)
  clear hc
  go_enter Try.func9, Try.ntmps9
  go_wp2_with (at_make; refine wpList_make_full _ rfl _ _ 22 rfl w.heap.size 9 i0 (.string ⟨#[]⟩) 1 Try.underlying22 hi hz0 hz1 .i64 .i64 _ _ n rfl rfl ?c0 ?c1 ?c2 ?c3 ?c4 ?_)
  case c0 => rfl
  case c1 => rfl
  case c2 => rw [hz2]; omega
  case c3 => unfold maxLen; omega
  case c4 => exact Nat.le_refl _
  intro w1 hown hgrow
  have HR := Lib.hid (Filling.start (vs := strsV f n) (z := .string ⟨#[]⟩) HL.out (Below.refl w.heap.size w) (Nat.le_refl _) hown hgrow)
  clear hown hgrow
  go_wp2
  go_loopw [4] (fun i wr => ∃ j : Nat, j ≤ n ∧ i = .int .i64 j ∧ Filling w.heap.size w.heap.size 9 (strsV f n) (.string ⟨#[]⟩) w j wr) (fun i _ => n - (intOf i).toNat)
  case atStart => exact ⟨0, by omega, rfl, HR.out⟩
  case round =>
    obtain ⟨j, hj, rfl, hr⟩ := hrel
    have H := Lib.hid hr
    clear hr HR
    by_cases hlt : j < n
    · have c0 := H.out.cell (by rw [HL.out]; exact hlt)
      have f0 := H.out.free
      have l0 := cb H.out.2.1 (by exact cell_lt (HC.out j hlt)) (HC.out j hlt)
      have R := Lib.hid (H.out.store (Nat.le_refl _) (.string (f j)) (strsV_get f n j hlt))
      go_wp2
      go_roundw
      case rel => exact ⟨j + 1, by omega, by go_num, R.out⟩
      case measure => simp [intOf]; omega
    · obtain rfl : j = n := by omega
      have HD := Lib.hid (show wr.ownsRow w.heap.size 9 1 (.slice (some ⟨w.heap.size, 0, none⟩) j j) j (strsV f j) by
        have h := H.out
        have h' : Filling w.heap.size w.heap.size 9 (strsV f j) (.string ⟨#[]⟩) w (strsV f j).length wr := by rw [HL.out]; exact h
        have h2 := h'.done
        rw [HL.out] at h2; exact h2)
      go_wp2
      go_ret
      exact ⟨rfl, HD.out, H.out.2.1⟩

theorem cloneI_info : (Try.prog.info? 3).map (fun i => (i.zero, i.size, i.bytes)) = some (some (.int .i64 0), 1, 8) := by kernel_rfl
theorem cloneI_nil (w : World) : Calls Try.prog 10 #[.slice none 0 0] w fun e w' => e = .returned (.slice none 0 0) ∧ w = w' := by
  have hq := fun w => Lib.run_eql_slice_nil (P := Try.prog) w 23 3 none 0 0 0 0 Try.underlying23
  go_enter Try.func10, Try.ntmps10
  go_wp2
  go_ret
  exact ⟨rfl, rfl⟩
theorem cloneI_empty (a : Addr) (cap : Nat) (w : World) : Calls Try.prog 10 #[.slice (some a) 0 cap] w fun e w' => e = .returned (.slice (some ⟨w.heap.size, 0, none⟩) 0 0) ∧ Below w.heap.size w w' := by
  have hq := fun w => Lib.run_eql_slice_nil (P := Try.prog) w 23 3 (some a) 0 cap 0 0 Try.underlying23
  obtain ⟨i0, hi, hz0, hz1, hz2⟩ := info_parts cloneI_info
  go_enter Try.func10, Try.ntmps10
  go_wp2_with (at_make; refine wpList_make_full _ rfl _ _ 23 rfl w.heap.size 3 i0 (.int .i64 0) 1 Try.underlying23 hi hz0 hz1 .i64 .i64 _ _ 0 rfl rfl ?c0 ?c1 ?c2 ?c3 ?c4 ?_)
  case c0 => rfl
  case c1 => rfl
  case c2 => rw [hz2]; omega
  case c3 => unfold maxLen; omega
  case c4 => exact Nat.le_refl _
  intro w1 hown hgrow
  have HB := Lib.hid (show Below w.heap.size w w1 from (Below.refl _ _).grown hgrow (Nat.le_refl _) (fun k h => by cases h))
  clear hown hgrow
  go_wp2
  refine wp_loop_rounds 1 ?_
  rw [rounds_succ]
  go_wp2
  go_ret
  exact ⟨rfl, HB.out⟩
set_option maxHeartbeats 1000000 in
theorem cloneI_row (b off n cap : Nat) (f : Nat → Int) (w : World) (hn : n ≤ 1048576) (hc : ∀ i, i < n → w.cell? ⟨b, off + i, none⟩ = some (.int .i64 (f i))) :
    Calls Try.prog 10 #[.slice (some ⟨b, off, none⟩) n cap] w fun e w' => e = .returned (.slice (some ⟨w.heap.size, 0, none⟩) n n) ∧
      w'.ownsRow w.heap.size 3 1 (.slice (some ⟨w.heap.size, 0, none⟩) n n) n (intsV .i64 f n) ∧ Below w.heap.size w w' := by
  have hq := fun w => Lib.run_eql_slice_nil (P := Try.prog) w 23 3 (some ⟨b, off, none⟩) n cap 0 0 Try.underlying23
  obtain ⟨i0, hi, hz0, hz1, hz2⟩ := info_parts cloneI_info
  have HC := Lib.hid hc
  have HL := Lib.hid (intsV_length .i64 f n)
  clear hc
  go_enter Try.func10, Try.ntmps10
  go_wp2_with (at_make; refine wpList_make_full _ rfl _ _ 23 rfl w.heap.size 3 i0 (.int .i64 0) 1 Try.underlying23 hi hz0 hz1 .i64 .i64 _ _ n rfl rfl ?c0 ?c1 ?c2 ?c3 ?c4 ?_)
  case c0 => rfl
  case c1 => rfl
  case c2 => rw [hz2]; omega
  case c3 => unfold maxLen; omega
  case c4 => exact Nat.le_refl _
  intro w1 hown hgrow
  have HR := Lib.hid (Filling.start (vs := intsV .i64 f n) (z := .int .i64 0) HL.out (Below.refl w.heap.size w) (Nat.le_refl _) hown hgrow)
  clear hown hgrow
  go_wp2
  go_loopw [4] (fun i wr => ∃ j : Nat, j ≤ n ∧ i = .int .i64 j ∧ Filling w.heap.size w.heap.size 3 (intsV .i64 f n) (.int .i64 0) w j wr) (fun i _ => n - (intOf i).toNat)
  case atStart => exact ⟨0, by omega, rfl, HR.out⟩
  case round =>
    obtain ⟨j, hj, rfl, hr⟩ := hrel
    have H := Lib.hid hr
    clear hr HR
    by_cases hlt : j < n
    · have c0 := H.out.cell (by rw [HL.out]; exact hlt)
      have f0 := H.out.free
      have l0 := cb H.out.2.1 (by exact cell_lt (HC.out j hlt)) (HC.out j hlt)
      have R := Lib.hid (H.out.store (Nat.le_refl _) (.int .i64 (f j)) (intsV_get .i64 f n j hlt))
      go_wp2
      go_roundw
      case rel => exact ⟨j + 1, by omega, by go_num, R.out⟩
      case measure => simp [intOf]; omega
    · obtain rfl : j = n := by omega
      have HD := Lib.hid (show wr.ownsRow w.heap.size 3 1 (.slice (some ⟨w.heap.size, 0, none⟩) j j) j (intsV .i64 f j) by
        have h := H.out
        have h' : Filling w.heap.size w.heap.size 3 (intsV .i64 f j) (.int .i64 0) w (intsV .i64 f j).length wr := by rw [HL.out]; exact h
        have h2 := h'.done
        rw [HL.out] at h2; exact h2)
      go_wp2
      go_ret
      exact ⟨rfl, HD.out, H.out.2.1⟩
end Go.Proofs.Ytljbaachfbcbbaa.vars
