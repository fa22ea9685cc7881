/-
  Contracts of the functions of the law's own that bound, copy and compare its arguments. Conditions: as each contract states.
-/
import Derived.Test.YtcemogndiblooaaDoorOwn
import Derived.Test.YtcemogndiblooaaDoorChecked
import Derived.BigQuiet
import Derived.Deep.QuietTactic
import Derived.WalkSpells
import Derived.Lib.SliceRun
namespace Go.Proofs.YtcemogndiblooaaDoor.vars
open Go.ChangeShapes Go.WideShapes Go.ChangeAt Go.RowKit
open Go.Proofs.YtcemogndiblooaaDoor.own
set_option linter.unusedVariables false

/-- the same memory, whatever was drawn -/
structure Same (W wr : World) : Prop where
  heap : wr.heap = W.heap
  os : wr.os = W.os
  tape : wr.tape = W.tape
  output : wr.output = W.output
theorem Same.refl (W : World) : Same W W := ⟨rfl, rfl, rfl, rfl⟩
theorem Same.trans {a b c : World} (h : Same a b) (k : Same b c) : Same a c := ⟨k.heap.trans h.heap, k.os.trans h.os, k.tape.trans h.tape, k.output.trans h.output⟩
theorem Same.drewN {W wr : World} (h : Same W wr) (n : Nat) : Same W (wr.drewN n) := ⟨h.heap, h.os, h.tape, h.output⟩
theorem Same.cell {W wr : World} (h : Same W wr) {a : Addr} {v : Value} (hc : W.cell? a = some v) : wr.cell? a = some v := by
  rw [← hc]; exact World.cell?_of_block (by rw [h.heap])
theorem Same.below {W wr : World} (h : Same W wr) (B : Nat) : Below B W wr := ⟨h.os, h.tape, h.output, by rw [h.heap]; exact Nat.le_refl _, fun _ _ => by rw [h.heap]⟩
/-- it answers a bool that fits, and leaves the world alone -/
def Ans (P : Bool → Prop) (w : World) (e : Ending) (w' : World) : Prop := ∃ b : Bool, P b ∧ e = .returned (.bool b) ∧ w = w'
def AnsS (P : Bool → Prop) (w : World) (e : Ending) (w' : World) : Prop := ∃ b : Bool, P b ∧ e = .returned (.bool b) ∧ Same w w'
def AnsI (P : Int → Prop) (w : World) (e : Ending) (w' : World) : Prop := ∃ t : Int, P t ∧ e = .returned (.int .i64 t) ∧ w = w'
/-- a slice of n strings f that can be read -/
def SR (w : World) (a : Option Addr) (n : Nat) (f : Nat → ByteArray) : Prop :=
  n = 0 ∨ ∃ b off, a = some ⟨b, off, none⟩ ∧ ∀ i, i < n → w.cell? ⟨b, off + i, none⟩ = some (.string (f i)) ∧ (f i).size ≤ 9223372036854775807
/-- a slice of n ints f that can be read -/
def IR (w : World) (a : Option Addr) (n : Nat) (f : Nat → Int) : Prop := n = 0 ∨ ∃ b off, a = some ⟨b, off, none⟩ ∧ ∀ i, i < n → w.cell? ⟨b, off + i, none⟩ = some (.int .i64 (f i))
theorem IR.keep {w w' : World} {a : Option Addr} {n : Nat} {f : Nat → Int} (h : IR w a n f) (hb : Below w.heap.size w w') : IR w' a n f := by
  rcases h with h | ⟨b, off, hx, hc⟩
  · exact .inl h
  · exact .inr ⟨b, off, hx, fun i hi => cb hb (cell_lt (hc i hi)) (hc i hi)⟩
theorem row_at {w : World} {x : Addr} {n : Nat} {F : Nat → Value} (h : ∀ i, i < n → w.cell? (x.add i) = some (F i)) (hn : 0 < n) : ∃ b off, x = ⟨b, off, none⟩ ∧ ∀ i, i < n → w.cell? ⟨b, off + i, none⟩ = some (F i) := by
  obtain ⟨b, off, spot⟩ := x
  have hc := h 0 hn
  have hspot : spot = none := by simpa [Addr.add] using World.cell?_spot hc
  subst hspot
  refine ⟨b, off, rfl, fun i hi => ?_⟩
  have hadd : (⟨b, off, none⟩ : Addr).add i = ⟨b, off + i, none⟩ := by unfold Addr.add; split <;> simp_all
  rw [← hadd]; exact h i hi

/-- A slice of integers that came in: nil, or a row of cap cells that hold zs. -/
def IsRow (k : IntKind) (w : World) (a : Option Addr) (len cap : Nat) (zs : List Int) : Prop :=
  (a = none ∧ len = 0 ∧ cap = 0 ∧ zs = []) ∨
  ∃ x, a = some x ∧ len ≤ cap ∧ cap ≤ maxLen ∧ zs.length = cap ∧ (∀ i, i < zs.length → w.cell? (x.add i) = some (.int k (zs.getD i 0))) ∧ ∀ n ∈ zs, (Lit.int k n).wf = true
/-- A slice of strings that came in: nil, or a row of cap cells that hold zs. -/
def IsStrs (w : World) (a : Option Addr) (len cap : Nat) (zs : List ByteArray) : Prop :=
  (a = none ∧ len = 0 ∧ cap = 0 ∧ zs = []) ∨
  ∃ x, a = some x ∧ len ≤ cap ∧ cap ≤ maxLen ∧ zs.length = cap ∧ (∀ i, i < zs.length → w.cell? (x.add i) = some (.string (zs.getD i ByteArray.empty))) ∧ ∀ s ∈ zs, s.size ≤ maxLen
theorem IsRow.ir {w : World} {a : Option Addr} {len cap : Nat} {zs : List Int} (h : IsRow .i64 w a len cap zs) : IR w a len (fun i => zs.getD i 0) ∧ len ≤ maxLen ∧ (a = none → len = 0 ∧ cap = 0) := by
  rcases h with ⟨rfl, rfl, rfl, rfl⟩ | ⟨x, rfl, hl, hm, hz, hc, _⟩
  · exact ⟨.inl rfl, Nat.zero_le _, fun _ => ⟨rfl, rfl⟩⟩
  · refine ⟨?_, by omega, fun h => by cases h⟩
    by_cases h0 : len = 0
    · exact .inl h0
    · obtain ⟨b, off, rfl, hc'⟩ := row_at (n := len) (F := fun i => .int .i64 (zs.getD i 0)) (fun i hi => hc i (by omega)) (by omega)
      exact .inr ⟨b, off, rfl, hc'⟩
theorem IsStrs.sr {w : World} {a : Option Addr} {len cap : Nat} {zs : List ByteArray} (h : IsStrs w a len cap zs) : SR w a len (fun i => zs.getD i ByteArray.empty) ∧ len ≤ maxLen ∧ (a = none → len = 0 ∧ cap = 0) := by
  rcases h with ⟨rfl, rfl, rfl, rfl⟩ | ⟨x, rfl, hl, hm, hz, hc, hs⟩
  · exact ⟨.inl rfl, Nat.zero_le _, fun _ => ⟨rfl, rfl⟩⟩
  · refine ⟨?_, by omega, fun h => by cases h⟩
    by_cases h0 : len = 0
    · exact .inl h0
    · obtain ⟨b, off, rfl, hc'⟩ := row_at (n := len) (F := fun i => .string (zs.getD i ByteArray.empty)) (fun i hi => hc i (by omega)) (by omega)
      refine .inr ⟨b, off, rfl, fun i hi => ⟨hc' i hi, ?_⟩⟩
      have := hs (zs.getD i ByteArray.empty) (by rw [List.getD_eq_getElem?_getD, List.getElem?_eq_getElem (by omega)]; exact List.getElem_mem _)
      unfold maxLen at this; exact this

def Szs (n : Nat) (f : Nat → ByteArray) (b : Bool) : Prop := b = true → ∀ i, i < n → (f i).size ≤ 1048576
set_option maxHeartbeats 2000000 in
theorem zz4 (a : Option Addr) (n c : Nat) (a7 : Option Addr) (n7 c7 : Nat) (f : Nat → ByteArray) (w : World) (hn7 : n7 ≤ maxLen) (hn : n ≤ maxLen) (h : SR w a n f) :
    Calls Tryd.prog 4 #[.slice a n c, .slice a7 n7 c7] w (Ans (Szs n f) w) := by
  unfold maxLen at *
  have HS := Lib.hid h
  clear h
  go_enter Tryd.func4, Tryd.ntmps4
  go_wp2
  all_goals (try (go_ret; exact ⟨false, (fun h => by cases h), rfl, rfl⟩))
  go_loop [5, 6] (fun z i => ∃ (t : Int) (k : Nat), 0 ≤ t ∧ t ≤ 1048576 * 18 ∧ k ≤ n ∧ z = .int .i64 t ∧ i = .int .i64 k ∧ ∀ j, j < k → (f j).size ≤ 1048576) (fun _ i => n - (intOf i).toNat)
  case atStart => exact ⟨_, 0, by omega, by omega, by omega, rfl, rfl, fun j hj => by omega⟩
  case round =>
    obtain ⟨t, k, ht0, ht1, hk, rfl, rfl, hall⟩ := hrel
    have HA := Lib.hid hall
    clear hall
    by_cases hlt : k < n
    · rcases HS.out with h0 | ⟨b, off, rfl, hc⟩
      · omega
      · obtain ⟨c1, c2⟩ := hc k hlt
        clear hc HS
        go_wp2
        all_goals (try (go_ret; exact ⟨false, (fun h => by cases h), rfl, rfl⟩))
        go_round
        case rel => exact ⟨_, k + 1, by omega, by omega, by omega, rfl, by go_num, fun j hj => by
          by_cases e : j = k
          · subst e; omega
          · exact HA.out j (by omega)⟩
        case measure => simp [intOf]; omega
    · obtain rfl : k = n := by omega
      go_wp2
      all_goals (go_ret; first | exact ⟨false, (fun h => by cases h), rfl, rfl⟩ | exact ⟨true, fun _ => HA.out, rfl, rfl⟩)
def LimS (n : Nat) (t : Int) : Prop := 0 ≤ t ∧ t ≤ 2097152 ∧ (t ≤ 1048576 → n ≤ 131072)
set_option maxHeartbeats 2000000 in
theorem strsB (a : Option Addr) (n c : Nat) (f : Nat → ByteArray) (w : World) (hn : n ≤ maxLen) (hz : ∀ i, i < n → (f i).size ≤ 1048576) (h : SR w a n f) :
    Calls Tryd.prog 5 #[.slice a n c] w (AnsI (LimS n) w) := by
  unfold maxLen at *
  by_cases hb : n ≤ 1048576
  · have HS := Lib.hid h
    have HZ := Lib.hid hz
    clear h hz
    go_enter Tryd.func5, Tryd.ntmps5
    go_wp2
    go_loop [3, 4] (fun z i => ∃ (t : Int) (k : Nat), 8 * (n : Int) ≤ t ∧ t ≤ 8388608 + 1048576 ∧ k ≤ n ∧ z = .int .i64 t ∧ i = .int .i64 k ∧ (0 < k → t ≤ 1048576) ∧ (k = 0 → t = 8 * (n : Int))) (fun _ i => n - (intOf i).toNat)
    case atStart => exact ⟨8 * (n : Int), 0, by omega, by omega, by omega, rfl, rfl, by omega, fun _ => rfl⟩
    case round =>
      obtain ⟨t, k, ht0, ht1, hk, rfl, rfl, ht2, ht4⟩ := hrel
      have HT2 := Lib.hid ht2
      have HT4 := Lib.hid ht4
      clear ht2 ht4
      by_cases hlt : k < n
      · rcases HS.out with h0 | ⟨b, off, rfl, hc⟩
        · omega
        · obtain ⟨c1, c2⟩ := hc k hlt
          have c3 := HZ.out k hlt
          clear hc HS
          by_cases hst : t + ((f k).size : Int) ≤ 1048576
          · go_wp2
            go_round
            case rel => exact ⟨t + (f k).size, k + 1, by omega, by omega, by omega, rfl, by go_num, fun _ => hst, by omega⟩
            case measure => simp [intOf]; omega
          · go_wp2
            go_ret
            exact ⟨_, ⟨by omega, by omega, by omega⟩, rfl, rfl⟩
      · have ht3 : t ≤ 2097152 := by
          rcases Nat.eq_zero_or_pos k with h | h
          · have := HT4.out h; omega
          · have := HT2.out h; omega
        go_wp2
        go_ret
        exact ⟨_, ⟨by omega, by omega, by omega⟩, rfl, rfl⟩
  · have hb' : (1048576 : Int) < (n : Int) := by omega
    go_enter Tryd.func5, Tryd.ntmps5
    go_wp2
    go_ret
    exact ⟨_, ⟨by omega, by omega, by omega⟩, rfl, rfl⟩
theorem intsB (a : Option Addr) (n c : Nat) (w : World) (hn : n ≤ maxLen) : Calls Tryd.prog 6 #[.slice a n c] w (AnsI (fun t => 0 ≤ t ∧ t ≤ 8388608 ∧ (t ≤ 1048576 → n ≤ 131072)) w) := by
  unfold maxLen at *
  go_enter Tryd.func6, Tryd.ntmps6
  go_wp2
  all_goals (go_ret; exact ⟨_, ⟨by omega, by omega, by omega⟩, rfl, rfl⟩)
def Incr (n : Nat) (f : Nat → Int) (b : Bool) : Prop := b = true → ∀ i, i + 1 < n → f i < f (i + 1)
set_option maxHeartbeats 2000000 in
theorem incr_any (a : Option Addr) (n c : Nat) (f : Nat → Int) (w : World) (hn : n ≤ 131072) (h : IR w a n f) :
    Calls Tryd.prog 7 #[.slice a n c] w (AnsS (Incr n f) w) := by
  have HS := Lib.hid h
  clear h
  go_enter Tryd.func7, Tryd.ntmps7
  go_wp2
  go_loopw [3] (fun i wr => ∃ k : Nat, 1 ≤ k ∧ k ≤ n + 1 ∧ i = .int .i64 k ∧ Same w wr ∧ ∀ j, j + 1 < k → f j < f (j + 1)) (fun i _ => n + 1 - (intOf i).toNat)
  case atStart => exact ⟨1, by omega, by omega, rfl, Same.refl w, fun j hj => by omega⟩
  case round =>
    obtain ⟨k, hk1, hk2, rfl, hs, hall⟩ := hrel
    have HSm := Lib.hid hs
    have HA := Lib.hid hall
    clear hs hall
    by_cases hlt : k < n
    · rcases HS.out with h0 | ⟨b, off, rfl, hc⟩
      · omega
      have c1 := HSm.out.cell (hc (k - 1) (by omega))
      have c2 := HSm.out.cell (hc k hlt)
      obtain ⟨x, hx⟩ : ∃ x, x = f (k - 1) := ⟨_, rfl⟩
      obtain ⟨y, hy⟩ : ∃ y, y = f k := ⟨_, rfl⟩
      rw [← hx] at c1
      rw [← hy] at c2
      have HX := Lib.hid hx
      have HY := Lib.hid hy
      have i1 : ((k : Int) - 1).toNat = k - 1 := by omega
      have i2 : IntKind.i64.wrap ((k : Int) - 1) = (k : Int) - 1 := IntWalk.i64_in _ (by omega)
      have i3 : (0 : Int) ≤ (k : Int) - 1 := by omega
      have i4 : (k : Int) - 1 < (n : Int) := by omega
      clear hx hy hc
      by_cases hxy : x < y
      · have t1 : decide (y ≤ x) = false := by simp; omega
        go_wp2
        go_quiet (fail)
        clear i1 i2
        go_wp2
        go_roundw
        case rel => exact ⟨k + 1, by omega, by omega, by go_num, HSm.out.drewN _, fun j hj => by
          by_cases e : j + 1 = k
          · have e2 : j = k - 1 := by omega
            subst e2
            rw [show k - 1 + 1 = k by omega, ← HX.out, ← HY.out]; exact hxy
          · exact HA.out j (by omega)⟩
        case measure => simp [intOf]; omega
      · have t1 : decide (y ≤ x) = true := by simp; omega
        go_wp2
        go_quiet (fail)
        clear i1 i2
        go_wp2
        go_ret
        exact ⟨false, (fun h => by cases h), rfl, HSm.out.drewN _⟩
    · go_wp2
      go_ret
      exact ⟨true, fun _ j hj => HA.out j (by omega), rfl, HSm.out⟩
theorem cloneS_info : (Tryd.prog.info? 9).map (fun i => (i.zero, i.size, i.bytes)) = some (some (.string ⟨#[]⟩), 1, 16) := by kernel_rfl
theorem cloneS_nil (w : World) : Calls Tryd.prog 8 #[.slice none 0 0] w fun e w' => e = .returned (.slice none 0 0) ∧ w = w' := by
  have hq := fun w => Lib.run_eql_slice_nil (P := Tryd.prog) w 22 9 none 0 0 0 0 Tryd.underlying22
  go_enter Tryd.func8, Tryd.ntmps8
  go_wp2
  go_ret
  exact ⟨rfl, rfl⟩
theorem cloneS_empty (a : Addr) (cap : Nat) (w : World) : Calls Tryd.prog 8 #[.slice (some a) 0 cap] w fun e w' => e = .returned (.slice (some ⟨w.heap.size, 0, none⟩) 0 0) ∧ Below w.heap.size w w' := by
  have hq := fun w => Lib.run_eql_slice_nil (P := Tryd.prog) w 22 9 (some a) 0 cap 0 0 Tryd.underlying22
  obtain ⟨i0, hi, hz0, hz1, hz2⟩ := info_parts cloneS_info
  go_enter Tryd.func8, Tryd.ntmps8
  go_wp2_with (at_make; refine wpList_make_full _ rfl _ _ 22 rfl w.heap.size 9 i0 (.string ⟨#[]⟩) 1 Tryd.underlying22 hi hz0 hz1 .i64 .i64 _ _ 0 rfl rfl ?c0 ?c1 ?c2 ?c3 ?c4 ?_)
  case c0 => rfl
  case c1 => rfl
  case c2 => rw [hz2]; omega
  case c3 => unfold maxLen; omega
  case c4 => exact Nat.le_refl _
  intro w1 hown hgrow
  have HB := Lib.hid (show Below w.heap.size w w1 from (Below.refl _ _).grown hgrow (Nat.le_refl _) (fun k h => by cases h))
  clear hown hgrow
  go_wp2
  refine wp_loop_rounds 1 ?_
  rw [rounds_succ]
  go_wp2
  go_ret
  exact ⟨rfl, HB.out⟩
set_option maxHeartbeats 1000000 in
theorem cloneS_row (b off n cap : Nat) (f : Nat → ByteArray) (w : World) (hn : n ≤ 1048576) (hc : ∀ i, i < n → w.cell? ⟨b, off + i, none⟩ = some (.string (f i))) :
    Calls Tryd.prog 8 #[.slice (some ⟨b, off, none⟩) n cap] w fun e w' => e = .returned (.slice (some ⟨w.heap.size, 0, none⟩) n n) ∧
      w'.ownsRow w.heap.size 9 1 (.slice (some ⟨w.heap.size, 0, none⟩) n n) n (strsV f n) ∧ Below w.heap.size w w' := by
  have hq := fun w => Lib.run_eql_slice_nil (P := Tryd.prog) w 22 9 (some ⟨b, off, none⟩) n cap 0 0 Tryd.underlying22
  obtain ⟨i0, hi, hz0, hz1, hz2⟩ := info_parts cloneS_info
  have HC := Lib.hid hc
  have HL := Lib.hid (strsV_length f n)
  clear hc
  go_enter Tryd.func8, Tryd.ntmps8
  go_wp2_with (at_make; refine wpList_make_full _ rfl _ _ 22 rfl w.heap.size 9 i0 (.string ⟨#[]⟩) 1 Tryd.underlying22 hi hz0 hz1 .i64 .i64 _ _ n rfl rfl ?c0 ?c1 ?c2 ?c3 ?c4 ?_)
  case c0 => rfl
  case c1 => rfl
  case c2 => rw [hz2]; omega
  case c3 => unfold maxLen; omega
  case c4 => exact Nat.le_refl _
  intro w1 hown hgrow
  have HR := Lib.hid (Filling.start (vs := strsV f n) (z := .string ⟨#[]⟩) HL.out (Below.refl w.heap.size w) (Nat.le_refl _) hown hgrow)
  clear hown hgrow
  go_wp2
  go_loopw [4] (fun i wr => ∃ j : Nat, j ≤ n ∧ i = .int .i64 j ∧ Filling w.heap.size w.heap.size 9 (strsV f n) (.string ⟨#[]⟩) w j wr) (fun i _ => n - (intOf i).toNat)
  case atStart => exact ⟨0, by omega, rfl, HR.out⟩
  case round =>
    obtain ⟨j, hj, rfl, hr⟩ := hrel
    have H := Lib.hid hr
    clear hr HR
    by_cases hlt : j < n
    · have c0 := H.out.cell (by rw [HL.out]; exact hlt)
      have f0 := H.out.free
      have l0 := cb H.out.2.1 (by exact cell_lt (HC.out j hlt)) (HC.out j hlt)
      have R := Lib.hid (H.out.store (Nat.le_refl _) (.string (f j)) (strsV_get f n j hlt))
      go_wp2
      go_roundw
      case rel => exact ⟨j + 1, by omega, by go_num, R.out⟩
      case measure => simp [intOf]; omega
    · obtain rfl : j = n := by omega
      have HD := Lib.hid (show wr.ownsRow w.heap.size 9 1 (.slice (some ⟨w.heap.size, 0, none⟩) j j) j (strsV f j) by
        have h := H.out
        have h' : Filling w.heap.size w.heap.size 9 (strsV f j) (.string ⟨#[]⟩) w (strsV f j).length wr := by rw [HL.out]; exact h
        have h2 := h'.done
        rw [HL.out] at h2; exact h2)
      go_wp2
      go_ret
      exact ⟨rfl, HD.out, H.out.2.1⟩

theorem cloneI_info : (Tryd.prog.info? 3).map (fun i => (i.zero, i.size, i.bytes)) = some (some (.int .i64 0), 1, 8) := by kernel_rfl
theorem cloneI_nil (w : World) : Calls Tryd.prog 9 #[.slice none 0 0] w fun e w' => e = .returned (.slice none 0 0) ∧ w = w' := by
  have hq := fun w => Lib.run_eql_slice_nil (P := Tryd.prog) w 23 3 none 0 0 0 0 Tryd.underlying23
  go_enter Tryd.func9, Tryd.ntmps9
  go_wp2
  go_ret
  exact ⟨rfl, rfl⟩
theorem cloneI_empty (a : Addr) (cap : Nat) (w : World) : Calls Tryd.prog 9 #[.slice (some a) 0 cap] w fun e w' => e = .returned (.slice (some ⟨w.heap.size, 0, none⟩) 0 0) ∧ Below w.heap.size w w' := by
  have hq := fun w => Lib.run_eql_slice_nil (P := Tryd.prog) w 23 3 (some a) 0 cap 0 0 Tryd.underlying23
  obtain ⟨i0, hi, hz0, hz1, hz2⟩ := info_parts cloneI_info
  go_enter Tryd.func9, Tryd.ntmps9
  go_wp2_with (at_make; refine wpList_make_full _ rfl _ _ 23 rfl w.heap.size 3 i0 (.int .i64 0) 1 Tryd.underlying23 hi hz0 hz1 .i64 .i64 _ _ 0 rfl rfl ?c0 ?c1 ?c2 ?c3 ?c4 ?_)
  case c0 => rfl
  case c1 => rfl
  case c2 => rw [hz2]; omega
  case c3 => unfold maxLen; omega
  case c4 => exact Nat.le_refl _
  intro w1 hown hgrow
  have HB := Lib.hid (show Below w.heap.size w w1 from (Below.refl _ _).grown hgrow (Nat.le_refl _) (fun k h => by cases h))
  clear hown hgrow
  go_wp2
  refine wp_loop_rounds 1 ?_
  rw [rounds_succ]
  go_wp2
  go_ret
  exact ⟨rfl, HB.out⟩
set_option maxHeartbeats 1000000 in
theorem cloneI_row (b off n cap : Nat) (f : Nat → Int) (w : World) (hn : n ≤ 1048576) (hc : ∀ i, i < n → w.cell? ⟨b, off + i, none⟩ = some (.int .i64 (f i))) :
    Calls Tryd.prog 9 #[.slice (some ⟨b, off, none⟩) n cap] w fun e w' => e = .returned (.slice (some ⟨w.heap.size, 0, none⟩) n n) ∧
      w'.ownsRow w.heap.size 3 1 (.slice (some ⟨w.heap.size, 0, none⟩) n n) n (intsV .i64 f n) ∧ Below w.heap.size w w' := by
  have hq := fun w => Lib.run_eql_slice_nil (P := Tryd.prog) w 23 3 (some ⟨b, off, none⟩) n cap 0 0 Tryd.underlying23
  obtain ⟨i0, hi, hz0, hz1, hz2⟩ := info_parts cloneI_info
  have HC := Lib.hid hc
  have HL := Lib.hid (intsV_length .i64 f n)
  clear hc
  go_enter Tryd.func9, Tryd.ntmps9
  go_wp2_with (at_make; refine wpList_make_full _ rfl _ _ 23 rfl w.heap.size 3 i0 (.int .i64 0) 1 Tryd.underlying23 hi hz0 hz1 .i64 .i64 _ _ n rfl rfl ?c0 ?c1 ?c2 ?c3 ?c4 ?_)
  case c0 => rfl
  case c1 => rfl
  case c2 => rw [hz2]; omega
  case c3 => unfold maxLen; omega
  case c4 => exact Nat.le_refl _
  intro w1 hown hgrow
  have HR := Lib.hid (Filling.start (vs := intsV .i64 f n) (z := .int .i64 0) HL.out (Below.refl w.heap.size w) (Nat.le_refl _) hown hgrow)
  clear hown hgrow
  go_wp2
  go_loopw [4] (fun i wr => ∃ j : Nat, j ≤ n ∧ i = .int .i64 j ∧ Filling w.heap.size w.heap.size 3 (intsV .i64 f n) (.int .i64 0) w j wr) (fun i _ => n - (intOf i).toNat)
  case atStart => exact ⟨0, by omega, rfl, HR.out⟩
  case round =>
    obtain ⟨j, hj, rfl, hr⟩ := hrel
    have H := Lib.hid hr
    clear hr HR
    by_cases hlt : j < n
    · have c0 := H.out.cell (by rw [HL.out]; exact hlt)
      have f0 := H.out.free
      have l0 := cb H.out.2.1 (by exact cell_lt (HC.out j hlt)) (HC.out j hlt)
      have R := Lib.hid (H.out.store (Nat.le_refl _) (.int .i64 (f j)) (intsV_get .i64 f n j hlt))
      go_wp2
      go_roundw
      case rel => exact ⟨j + 1, by omega, by go_num, R.out⟩
      case measure => simp [intOf]; omega
    · obtain rfl : j = n := by omega
      have HD := Lib.hid (show wr.ownsRow w.heap.size 3 1 (.slice (some ⟨w.heap.size, 0, none⟩) j j) j (intsV .i64 f j) by
        have h := H.out
        have h' : Filling w.heap.size w.heap.size 3 (intsV .i64 f j) (.int .i64 0) w (intsV .i64 f j).length wr := by rw [HL.out]; exact h
        have h2 := h'.done
        rw [HL.out] at h2; exact h2)
      go_wp2
      go_ret
      exact ⟨rfl, HD.out, H.out.2.1⟩


end Go.Proofs.YtcemogndiblooaaDoor.vars
