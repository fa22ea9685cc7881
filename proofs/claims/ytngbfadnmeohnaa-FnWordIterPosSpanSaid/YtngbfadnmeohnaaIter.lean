/-
  Contracts of the functions that FnWordIterPosSpan reaches. Conditions: as each contract states.
-/
import Derived.Test.YtngbfadnmeohnaaOwn
import Derived.Test.YtngbfadnmeohnaaPos
import Derived.Test.YtngbfadnmeohnaaChecked
import Derived.BigQuiet
import Derived.Deep.QuietTactic
import Derived.Deep.RegionHeld3
import Derived.WalkSpells
import Derived.Lib.SliceRun
namespace Go.Proofs.Ytngbfadnmeohnaa.iter
open Go.ChangeShapes Go.WideShapes Go.ChangeAt Go.RowKit
open Go.Proofs.Ytngbfadnmeohnaa.own hiding ret_int ret_bool wf_u64 wf_u32 wf_i64
open Go.Proofs.Ytngbfadnmeohnaa.posn
set_option linter.unusedVariables false

def AnyB (w : World) (e : Ending) (w' : World) : Prop := ∃ b : Bool, e = .returned (.bool b) ∧ w = w'
def AnyBB (w : World) (e : Ending) (w' : World) : Prop := ∃ b : Bool, e = .returned (.bool b) ∧ Below w.heap.size w w'
theorem zz31 (a0 a1 a2 a3 a4 a5 : Int) (a : Option Addr) (n c : Nat) (a7 : Option Addr) (n7 c7 : Nat) (w : World) (hn : n ≤ maxLen) (hn7 : n7 ≤ maxLen) :
    Calls Try.prog 31 #[.int .u32 a0, .int .u32 a1, .int .u32 a2, .int .u32 a3, .int .u32 a4, .int .u32 a5, .slice a n c, .slice a7 n7 c7] w (AnyB w) := by
  unfold maxLen at *
  go_enter Try.func31, Try.ntmps31
  go_wp2
  all_goals (go_ret; exact ⟨_, rfl, rfl⟩)
def okB (x y : Int) : Bool := decide (x ≤ 4294967284) || ((x == 4294967285) && (y == 0))
theorem posOK (x y : Int) (w : World) : Calls Try.prog 10 #[.int .u32 x, .int .u32 y] w fun e w' => e = .returned (.bool (okB x y)) ∧ w = w' := by
  by_cases h1 : x ≤ 4294967284
  · have K := Lib.hid (show true = okB x y by simp [okB, h1])
    go_enter Try.func10, Try.ntmps10
    go_wp2
    go_ret
    exact ⟨ret_bool K.out, rfl⟩
  · have h3 : decide (x ≤ 4294967284) = false := by simpa using h1
    cases h2 : (x == 4294967285)
    · have K := Lib.hid (show false = okB x y by unfold okB; rw [h3, h2]; rfl)
      go_enter Try.func10, Try.ntmps10
      go_wp2
      go_ret
      exact ⟨ret_bool K.out, rfl⟩
    · have K := Lib.hid (show (y == 0) = okB x y by unfold okB; rw [h3, h2]; rfl)
      go_enter Try.func10, Try.ntmps10
      go_wp2
      go_ret
      exact ⟨ret_bool K.out, rfl⟩
theorem clone_info : (Try.prog.info? 22).map (fun i => (i.zero, i.size, i.bytes)) = some (some (.int .u32 0), 1, 4) := by kernel_rfl
theorem cloneI_nil (w : World) : Calls Try.prog 32 #[.slice none 0 0] w fun e w' => e = .returned (.slice none 0 0) ∧ w = w' := by
  have hq := fun w => Lib.run_eql_slice_nil (P := Try.prog) w 58 22 none 0 0 0 0 Try.underlying58
  go_enter Try.func32, Try.ntmps32
  go_wp2
  go_ret
  exact ⟨rfl, rfl⟩
theorem cloneI_empty (a : Addr) (cap : Nat) (w : World) : Calls Try.prog 32 #[.slice (some a) 0 cap] w fun e w' => e = .returned (.slice (some ⟨w.heap.size, 0, none⟩) 0 0) ∧ Below w.heap.size w w' := by
  have hq := fun w => Lib.run_eql_slice_nil (P := Try.prog) w 58 22 (some a) 0 cap 0 0 Try.underlying58
  obtain ⟨i0, hi, hz0, hz1, hz2⟩ := info_parts clone_info
  go_enter Try.func32, Try.ntmps32
  go_wp2_with (at_make; refine wpList_make_full _ rfl _ _ 58 rfl w.heap.size 22 i0 (.int .u32 0) 1 Try.underlying58 hi hz0 hz1 .i64 .i64 _ _ 0 rfl rfl ?c0 ?c1 ?c2 ?c3 ?c4 ?_)
  case c0 => rfl
  case c1 => rfl
  case c2 => rw [hz2]; omega
  case c3 => unfold maxLen; omega
  case c4 => exact Nat.le_refl _
  intro w1 hown hgrow
  have HB := Lib.hid (show Below w.heap.size w w1 from (Below.refl _ _).grown hgrow (Nat.le_refl _) (fun k h => by cases h))
  clear hown hgrow
  go_wp2
  refine wp_loop_rounds 1 ?_
  rw [rounds_succ]
  go_wp2
  go_ret
  exact ⟨rfl, HB.out⟩
set_option maxHeartbeats 1000000 in
theorem cloneI_row (b off n cap : Nat) (f : Nat → Int) (w : World) (hn : n ≤ 1048576) (hc : ∀ i, i < n → w.cell? ⟨b, off + i, none⟩ = some (.int .u32 (f i))) :
    Calls Try.prog 32 #[.slice (some ⟨b, off, none⟩) n cap] w fun e w' => e = .returned (.slice (some ⟨w.heap.size, 0, none⟩) n n) ∧
      w'.ownsRow w.heap.size 22 1 (.slice (some ⟨w.heap.size, 0, none⟩) n n) n (intsV .u32 f n) ∧ Below w.heap.size w w' := by
  have hq := fun w => Lib.run_eql_slice_nil (P := Try.prog) w 58 22 (some ⟨b, off, none⟩) n cap 0 0 Try.underlying58
  obtain ⟨i0, hi, hz0, hz1, hz2⟩ := info_parts clone_info
  have HC := Lib.hid hc
  have HL := Lib.hid (intsV_length .u32 f n)
  clear hc
  go_enter Try.func32, Try.ntmps32
  go_wp2_with (at_make; refine wpList_make_full _ rfl _ _ 58 rfl w.heap.size 22 i0 (.int .u32 0) 1 Try.underlying58 hi hz0 hz1 .i64 .i64 _ _ n rfl rfl ?c0 ?c1 ?c2 ?c3 ?c4 ?_)
  case c0 => rfl
  case c1 => rfl
  case c2 => rw [hz2]; omega
  case c3 => unfold maxLen; omega
  case c4 => exact Nat.le_refl _
  intro w1 hown hgrow
  have HR := Lib.hid (Filling.start (vs := intsV .u32 f n) (z := .int .u32 0) HL.out (Below.refl w.heap.size w) (Nat.le_refl _) hown hgrow)
  clear hown hgrow
  go_wp2
  go_loopw [4] (fun i wr => ∃ j : Nat, j ≤ n ∧ i = .int .i64 j ∧ Filling w.heap.size w.heap.size 22 (intsV .u32 f n) (.int .u32 0) w j wr) (fun i _ => n - (intOf i).toNat)
  case atStart => exact ⟨0, by omega, rfl, HR.out⟩
  case round =>
    obtain ⟨j, hj, rfl, hr⟩ := hrel
    have H := Lib.hid hr
    clear hr HR
    by_cases hlt : j < n
    · have c0 := H.out.cell (by rw [HL.out]; exact hlt)
      have f0 := H.out.free
      have l0 := cb H.out.2.1 (by exact cell_lt (HC.out j hlt)) (HC.out j hlt)
      have R := Lib.hid (H.out.store (Nat.le_refl _) (.int .u32 (f j)) (intsV_get .u32 f n j hlt))
      go_wp2
      go_roundw
      case rel => exact ⟨j + 1, by omega, by go_num, R.out⟩
      case measure => simp [intOf]; omega
    · obtain rfl : j = n := by omega
      have HD := Lib.hid (show wr.ownsRow w.heap.size 22 1 (.slice (some ⟨w.heap.size, 0, none⟩) j j) j (intsV .u32 f j) by
        have h := H.out
        have h' : Filling w.heap.size w.heap.size 22 (intsV .u32 f j) (.int .u32 0) w (intsV .u32 f j).length wr := by rw [HL.out]; exact h
        have h2 := h'.done
        rw [HL.out] at h2; exact h2)
      go_wp2
      go_ret
      exact ⟨rfl, HD.out, H.out.2.1⟩


def CIP (n : Nat) (g : Nat → Int) (w : World) (e : Ending) (w' : World) : Prop := ∃ la lc, e = .returned (.slice la n lc) ∧ IR .u32 w' la n g ∧ Below w.heap.size w w'
theorem clone_all (a : Option Addr) (n c : Nat) (g : Nat → Int) (w : World) (hn : n ≤ 65536) (h0 : a = none → n = 0 ∧ c = 0) (h : IR .u32 w a n g) : Calls Try.prog 32 #[.slice a n c] w (CIP n g w) := by
  cases a with
  | none => obtain ⟨rfl, rfl⟩ := h0 rfl; exact (cloneI_nil w).mono fun _ _ ⟨he, hw⟩ => ⟨_, _, he, .inl rfl, hw ▸ Below.refl _ _⟩
  | some x =>
    by_cases hz : n = 0
    · subst hz; exact (cloneI_empty x c w).mono fun _ _ ⟨he, hw⟩ => ⟨_, _, he, .inl rfl, hw⟩
    · rcases h with h | ⟨b, off, hx, hc⟩
      · omega
      · injection hx with hx; subst hx
        exact (cloneI_row b off n c g w (by omega) hc).mono fun _ _ ⟨he, ho, hw⟩ => ⟨_, _, he, .inr ⟨_, 0, rfl, fun i hi => by rw [Nat.zero_add, ho.cellAt i (by omega)]; exact intsV_get _ _ _ _ hi⟩, hw⟩
set_option maxHeartbeats 2000000 in
theorem itemsOK (a : Option Addr) (n c : Nat) (a7 : Option Addr) (c7 : Nat) (f g : Nat → Int) (w : World) (hn : n ≤ 65536) (h : IR .u32 w a n f) (h7 : IR .u32 w a7 n g) :
    Calls Try.prog 33 #[.slice a n c, .slice a7 n c7] w (AnyBB w) := by
  have HS := Lib.hid h
  have HT := Lib.hid h7
  clear h h7
  go_enter Try.func33, Try.ntmps33
  go_wp2
  go_loopw [5] (fun i wr => ∃ k : Nat, k ≤ n ∧ i = .int .i64 k ∧ wr.heap = w.heap ∧ Below w.heap.size w wr) (fun i _ => n - (intOf i).toNat)
  case atStart => exact ⟨0, by omega, rfl, rfl, Below.refl _ w⟩
  case round =>
    obtain ⟨k, hk2, rfl, hhp, hs⟩ := hrel
    have HSm := Lib.hid hs
    have HP := Lib.hid hhp
    clear hs hhp
    by_cases hlt : k < n
    · rcases HS.out with h0 | ⟨b, off, rfl, hc⟩
      · omega
      rcases HT.out with h0 | ⟨b7, off7, rfl, hc7⟩
      · omega
      have c1 := cb HSm.out (cell_lt (hc k hlt)) (hc k hlt)
      have c2 := cb HSm.out (cell_lt (hc7 k hlt)) (hc7 k hlt)
      obtain ⟨x, hx⟩ : ∃ x, x = f k := ⟨_, rfl⟩
      obtain ⟨y, hy⟩ : ∃ y, y = g k := ⟨_, rfl⟩
      rw [← hx] at c1
      rw [← hy] at c2
      clear hx hy hc hc7
      cases hbb : okB x y
      · go_wp2
        go_quiet (first | (go_at_call 10; refine Calls.quiet_of_same ((posOK _ _ _).mono fun _ _ h => ⟨h.1, h.2.symm⟩)))
        go_wp2
        go_ret
        exact ⟨_, rfl, ⟨HSm.out.os, HSm.out.tape, HSm.out.output, HSm.out.size, HSm.out.block⟩⟩
      · go_wp2
        go_quiet (first | (go_at_call 10; refine Calls.quiet_of_same ((posOK _ _ _).mono fun _ _ h => ⟨h.1, h.2.symm⟩)))
        go_wp2
        go_roundw
        case rel => exact ⟨k + 1, by omega, by go_num, HP.out, ⟨HSm.out.os, HSm.out.tape, HSm.out.output, HSm.out.size, HSm.out.block⟩⟩
        case measure => simp [intOf]; omega
    · obtain rfl : k = n := by omega
      go_wp2
      go_ret
      exact ⟨_, rfl, HSm.out⟩
theorem mk12 (x y : Int) (w : World) : Calls Try.prog 12 #[.int .u32 x, .int .u32 y] w fun e w' => e = .returned (.agg #[.int .u32 x, .int .u32 y]) ∧ w.alloc (.cells #[.int .u32 x, .int .u32 y] 26) = w' := by
  go_enter Try.func12, Try.ntmps12
  go_wp2
  exact bodyPost_ret (v := .agg #[_, _]) (by simp [results, Try.results12, go_sem]) rfl ⟨rfl, rfl⟩
/-- the five cells of a Lit -/
structure LitAt (w : World) (b : Nat) (x y u v : Int) : Prop where
  c0 : w.cell? ⟨b, 0, none⟩ = some (.int .u32 x)
  c1 : w.cell? ⟨b, 1, none⟩ = some (.int .u32 y)
  c2 : w.cell? ⟨b, 2, none⟩ = some (.int .u32 u)
  c3 : w.cell? ⟨b, 3, none⟩ = some (.int .u32 v)
theorem LitAt.keep {w w' : World} {b : Nat} {x y u v : Int} (h : LitAt w b x y u v) (hb : Below w.heap.size w w') : LitAt w' b x y u v := by
  have hlt : b < w.heap.size := cell_lt h.c0
  exact ⟨cb hb hlt h.c0, cb hb hlt h.c1, cb hb hlt h.c2, cb hb hlt h.c3⟩
def AggP (x y : Int) (w : World) (e : Ending) (w' : World) : Prop := e = .returned (.agg #[.int .u32 x, .int .u32 y]) ∧ Below w.heap.size w w'
theorem litPos (b : Nat) (x y u v : Int) (w : World) (h : LitAt w b x y u v) : Calls Try.prog 45 #[.pointer (some ⟨b, 0, none⟩)] w (AggP x y w) := by
  obtain ⟨c0, c1, c2, c3⟩ := h
  have hlt := cell_lt c0
  go_enter Try.func45, Try.ntmps45
  go_wp2
  exact bodyPost_ret (v := .agg #[_, _]) (by simp [results, Try.results45, go_sem]) rfl ⟨rfl, by go_grown⟩
theorem litEnd (b : Nat) (x y u v : Int) (w : World) (h : LitAt w b x y u v) : Calls Try.prog 48 #[.pointer (some ⟨b, 0, none⟩)] w (AggP u v w) := by
  obtain ⟨c0, c1, c2, c3⟩ := h
  have hlt := cell_lt c0
  go_enter Try.func48, Try.ntmps48
  go_wp2
  exact bodyPost_ret (v := .agg #[_, _]) (by simp [results, Try.results48, go_sem]) rfl ⟨rfl, by go_grown⟩
theorem cell_set {w : World} {a p : Addr} {u v : Value} (h : w.cell? p = some v) (hn : p.block ≠ a.block) : (w.setCell a u).cell? p = some v := by
  rw [← h]; exact World.cell?_of_block (Below.heap_setCell w a u p.block hn)
/-- a Word of one literal part, at p; its blocks lie at B or behind it -/
structure Item (B : Nat) (w : World) (p : Nat) (x y : Int) : Prop where
  ex : ∃ q r, (B ≤ p ∧ B ≤ q ∧ B ≤ r) ∧ w.cell? ⟨p, 0, none⟩ = some (.slice (some ⟨q, 0, none⟩) 1 1) ∧ w.cell? ⟨q, 0, none⟩ = some (.iface 62 (.pointer (some ⟨r, 0, none⟩))) ∧ LitAt w r x y x y
theorem Item.keep {B : Nat} {w w' : World} {p : Nat} {x y : Int} (h : Item B w p x y) (hb : Below w.heap.size w w') : Item B w' p x y := by
  obtain ⟨q, r, h0, h1, h2, h3⟩ := h.ex
  exact ⟨q, r, h0, cb hb (cell_lt h1) h1, cb hb (cell_lt h2) h2, h3.keep hb⟩
theorem Item.mono {B B' : Nat} {w : World} {p : Nat} {x y : Int} (h : Item B w p x y) (hB : B' ≤ B) : Item B' w p x y := by
  obtain ⟨q, r, h0, h1, h2, h3⟩ := h.ex
  exact ⟨q, r, by omega, h1, h2, h3⟩
theorem Item.set {B : Nat} {w : World} {p : Nat} {x y : Int} (h : Item B w p x y) (a : Addr) (u : Value) (hB : a.block < B) : Item B (w.setCell a u) p x y := by
  obtain ⟨q, r, h0, h1, h2, h3⟩ := h.ex
  exact ⟨q, r, h0, cell_set h1 (show p ≠ a.block by omega), cell_set h2 (show q ≠ a.block by omega), ⟨cell_set h3.c0 (show r ≠ a.block by omega), cell_set h3.c1 (show r ≠ a.block by omega), cell_set h3.c2 (show r ≠ a.block by omega), cell_set h3.c3 (show r ≠ a.block by omega)⟩⟩
def ItemP (x y : Int) (w : World) (e : Ending) (w' : World) : Prop := ∃ p, e = .returned (.pointer (some ⟨p, 0, none⟩)) ∧ Item w.heap.size w' p x y ∧ Below w.heap.size w w'
set_option maxHeartbeats 1000000 in
theorem litWord (x y : Int) (s : ByteArray) (w : World) : Calls Try.prog 44 #[.agg #[.int .u32 x, .int .u32 y], .agg #[.int .u32 x, .int .u32 y], .string s] w (ItemP x y w) := by
  go_enter Try.func44, Try.ntmps44
  go_wp2
  go_ret
  refine ⟨w.heap.size + 1 + 1 + 1 + 1, rfl, ⟨w.heap.size + 1 + 1 + 1, w.heap.size + 1 + 1, by omega, by simp [go_sem], by simp [go_sem], ⟨by simp [go_sem], by simp [go_sem], by simp [go_sem], by simp [go_sem]⟩⟩, by go_grown⟩
end Go.Proofs.Ytngbfadnmeohnaa.iter
