/-
  Contracts of the small functions that the law calls: bounds on sizes, the copy of the list, a new Config. No condition beyond what each contract states.
-/
import Derived.Test.YtcncmbniaabhkaaDoorOwn
import Derived.Test.YtcncmbniaabhkaaDoorRows
import Derived.Test.YtcncmbniaabhkaaDoorChecked
import Derived.BigQuiet
import Derived.Deep.QuietTactic
import Derived.WalkSpells
namespace Go.Proofs.YtcncmbniaabhkaaDoor.vars
open Go.ChangeShapes Go.WideShapes Go.ChangeAt Go.RowKit
open Go.Proofs.YtcncmbniaabhkaaDoor.own
set_option linter.unusedVariables false

/-- it answers a bool that fits, and leaves the world alone -/
def Ans (P : Bool → Prop) (w : World) (e : Ending) (w' : World) : Prop := ∃ b : Bool, P b ∧ e = .returned (.bool b) ∧ w = w'
/-- a slice of n strings f that can be read -/
def SR (w : World) (a : Option Addr) (n : Nat) (f : Nat → ByteArray) : Prop :=
  n = 0 ∨ ∃ b off, a = some ⟨b, off, none⟩ ∧ ∀ i, i < n → w.cell? ⟨b, off + i, none⟩ = some (.string (f i)) ∧ (f i).size ≤ 9223372036854775807

theorem row_at {w : World} {x : Addr} {n : Nat} {F : Nat → Value} (h : ∀ i, i < n → w.cell? (x.add i) = some (F i)) (hn : 0 < n) : ∃ b off, x = ⟨b, off, none⟩ ∧ ∀ i, i < n → w.cell? ⟨b, off + i, none⟩ = some (F i) := by
  obtain ⟨b, off, spot⟩ := x
  have hc := h 0 hn
  have hspot : spot = none := by simpa [Addr.add] using World.cell?_spot hc
  subst hspot
  refine ⟨b, off, rfl, fun i hi => ?_⟩
  have hadd : (⟨b, off, none⟩ : Addr).add i = ⟨b, off + i, none⟩ := by unfold Addr.add; split <;> simp_all
  rw [← hadd]; exact h i hi
set_option maxHeartbeats 1000000 in
def Ok4 (s : ByteArray) (n : Nat) (f : Nat → ByteArray) (b : Bool) : Prop := b = true → s.size ≤ 1048576 ∧ n ≤ 1048576 ∧ ∀ i, i < n → (f i).size ≤ 1048576
theorem Ok4.no (s : ByteArray) (n : Nat) (f : Nat → ByteArray) : Ok4 s n f false := fun h => by cases h
set_option maxHeartbeats 1000000 in
theorem zz4 (s : ByteArray) (hs : s.size ≤ maxLen) (a : Option Addr) (n c : Nat) (f : Nat → ByteArray) (w : World) (hn : n ≤ maxLen) (h : SR w a n f) :
    Calls Tryd.prog 4 #[.string s, .slice a n c] w (Ans (Ok4 s n f) w) := by
  unfold maxLen at *
  have HS := Lib.hid h
  clear h
  go_enter Tryd.func4, Tryd.ntmps4
  go_wp2
  all_goals (try (go_ret; exact ⟨_, Ok4.no s n f, rfl, rfl⟩))
  go_loop [5, 6] (fun z i => ∃ (t : Int) (k : Nat), Hid (∀ i, i < k → (f i).size ≤ 1048576) ∧ 0 ≤ t ∧ t ≤ 1048576 * 18 ∧ k ≤ n ∧ z = .int .i64 t ∧ i = .int .i64 k) (fun _ i => n - (intOf i).toNat)
  case atStart => exact ⟨_, 0, Lib.hid (fun i h => by omega), by omega, by omega, by omega, rfl, rfl⟩
  case round =>
    obtain ⟨t, k, H0, ht0, ht1, hk, rfl, rfl⟩ := hrel
    by_cases hlt : k < n
    · rcases HS.out with h0 | ⟨b, off, rfl, hc⟩
      · omega
      · obtain ⟨c1, c2⟩ := hc k hlt
        clear hc HS
        by_cases hz : (f k).size ≤ 1048576
        · have HN := Lib.hid (show ∀ i, i < k + 1 → (f i).size ≤ 1048576 by
            intro i hi
            by_cases e : i = k
            · rw [e]; exact hz
            · exact H0.out i (by omega))
          go_wp2
          all_goals (try (go_ret; exact ⟨_, Ok4.no s n f, rfl, rfl⟩))
          go_round
          case rel => exact ⟨_, k + 1, HN, by omega, by omega, by omega, rfl, by go_num⟩
          case measure => simp [intOf]; omega
        · go_wp2
          go_ret
          exact ⟨_, Ok4.no s n f, rfl, rfl⟩
    · obtain rfl : k = n := by omega
      go_wp2
      go_ret
      exact ⟨true, fun _ => ⟨by omega, by omega, H0.out⟩, rfl, rfl⟩
theorem cloneS_info : (Tryd.prog.info? 9).map (fun i => (i.zero, i.size, i.bytes)) = some (some (.string ⟨#[]⟩), 1, 16) := by kernel_rfl
set_option maxHeartbeats 2000000 in
theorem cloneS_row (b off n cap : Nat) (f : Nat → ByteArray) (w : World) (hn : n ≤ 1048576) (hc : ∀ i, i < n → w.cell? ⟨b, off + i, none⟩ = some (.string (f i))) :
    Calls Tryd.prog 6 #[.slice (some ⟨b, off, none⟩) n cap] w fun e w' => e = .returned (.slice (some ⟨w.heap.size, 0, none⟩) n n) ∧
      w'.ownsRow w.heap.size 9 1 (.slice (some ⟨w.heap.size, 0, none⟩) n n) n (strsV f n) ∧ Below w.heap.size w w' := by
  have hq := fun w => Lib.run_eql_slice_nil (P := Tryd.prog) w 22 9 (some ⟨b, off, none⟩) n cap 0 0 Tryd.underlying22
  obtain ⟨i0, hi, hz0, hz1, hz2⟩ := info_parts cloneS_info
  have HC := Lib.hid hc
  have HL := Lib.hid (strsV_length f n)
  clear hc
  go_enter Tryd.func6, Tryd.ntmps6
  go_wp2_with (at_make; refine wpList_make_full _ rfl _ _ 22 rfl w.heap.size 9 i0 (.string ⟨#[]⟩) 1 Tryd.underlying22 hi hz0 hz1 .i64 .i64 _ _ n rfl rfl ?c0 ?c1 ?c2 ?c3 ?c4 ?_)
  case c0 => rfl
  case c1 => rfl
  case c2 => rw [hz2]; omega
  case c3 => unfold maxLen; omega
  case c4 => exact Nat.le_refl _
  intro w1 hown hgrow
  have HR := Lib.hid (Filling.start (vs := strsV f n) (z := .string ⟨#[]⟩) HL.out (Below.refl w.heap.size w) (Nat.le_refl _) hown hgrow)
  clear hown hgrow
  go_wp2
  go_loopw [4] (fun i wr => ∃ j : Nat, j ≤ n ∧ i = .int .i64 j ∧ Filling w.heap.size w.heap.size 9 (strsV f n) (.string ⟨#[]⟩) w j wr) (fun i _ => n - (intOf i).toNat)
  case atStart => exact ⟨0, by omega, rfl, HR.out⟩
  case round =>
    obtain ⟨j, hj, rfl, hr⟩ := hrel
    have H := Lib.hid hr
    clear hr HR
    by_cases hlt : j < n
    · have c0 := H.out.cell (by rw [HL.out]; exact hlt)
      have f0 := H.out.free
      have l0 := cb H.out.2.1 (by exact cell_lt (HC.out j hlt)) (HC.out j hlt)
      have R := Lib.hid (H.out.store (Nat.le_refl _) (.string (f j)) (strsV_get f n j hlt))
      go_wp2
      go_roundw
      case rel => exact ⟨j + 1, by omega, by go_num, R.out⟩
      case measure => simp [intOf]; omega
    · obtain rfl : j = n := by omega
      have HD := Lib.hid (show wr.ownsRow w.heap.size 9 1 (.slice (some ⟨w.heap.size, 0, none⟩) j j) j (strsV f j) by
        have h := H.out
        have h' : Filling w.heap.size w.heap.size 9 (strsV f j) (.string ⟨#[]⟩) w (strsV f j).length wr := by rw [HL.out]; exact h
        have h2 := h'.done
        rw [HL.out] at h2; exact h2)
      go_wp2
      go_ret
      exact ⟨rfl, HD.out, H.out.2.1⟩
/-- how many bytes, eight besides for each -/
def Sum (f : Nat → ByteArray) : Nat → Int
  | 0 => 0
  | k + 1 => Sum f k + ((f k).size + 8 : Int)
theorem Sum_nonneg (f : Nat → ByteArray) : ∀ k, 0 ≤ Sum f k
  | 0 => by simp [Sum]
  | k + 1 => by have := Sum_nonneg f k; simp only [Sum]; omega
def SRes (f : Nat → ByteArray) (n : Nat) (e : Ending) : Prop := ∃ r : Int, e = .returned (.int .i64 r) ∧ 0 ≤ r ∧ r ≤ 4194304 ∧ (r ≤ 2097152 → r = Sum f n)
set_option maxHeartbeats 1000000 in
theorem bytesOf (a : Option Addr) (n c : Nat) (f : Nat → ByteArray) (w : World) (hn : n ≤ 1048576) (hb : ∀ i, i < n → (f i).size ≤ 1048576) (h : SR w a n f) :
    Calls Tryd.prog 5 #[.slice a n c] w fun e w' => SRes f n e ∧ w = w' := by
  have HS := Lib.hid h
  have HB := Lib.hid hb
  clear h hb
  go_enter Tryd.func5, Tryd.ntmps5
  go_wp2
  go_loop [3, 4] (fun z i => ∃ (t : Int) (k : Nat), Hid (t = Sum f k) ∧ 0 ≤ t ∧ t ≤ 2097152 ∧ k ≤ n ∧ z = .int .i64 t ∧ i = .int .i64 k) (fun _ i => n - (intOf i).toNat)
  case atStart => exact ⟨0, 0, Lib.hid rfl, by omega, by omega, by omega, rfl, rfl⟩
  case round =>
    obtain ⟨t, k, H0, ht0, ht1, hk, rfl, rfl⟩ := hrel
    by_cases hlt : k < n
    · have hz := HB.out k hlt
      rcases HS.out with h0 | ⟨b, off, rfl, hc⟩
      · omega
      · obtain ⟨c1, c2⟩ := hc k hlt
        have HN := Lib.hid (show t + ((f k).size + 8 : Int) = Sum f (k + 1) by rw [H0.out]; rfl)
        clear hc HS HB H0
        by_cases hbig : 2097152 < t + ((f k).size + 8 : Int)
        · go_wp2
          go_ret
          exact ⟨⟨_, rfl, by omega, by omega, fun h => absurd h (by omega)⟩, rfl⟩
        · go_wp2
          go_round
          case rel => exact ⟨_, k + 1, HN, by omega, by omega, by omega, rfl, by go_num⟩
          case measure => simp [intOf]; omega
    · obtain rfl : k = n := by omega
      go_wp2
      go_ret
      exact ⟨⟨t, rfl, ht0, by omega, fun _ => H0.out⟩, rfl⟩
end Go.Proofs.YtcncmbniaabhkaaDoor.vars
