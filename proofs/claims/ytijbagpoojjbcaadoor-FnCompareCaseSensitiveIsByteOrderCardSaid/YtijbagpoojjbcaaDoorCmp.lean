/-
  Contracts of strings.Compare, listEnviron.compare without case folding, and the law's own byte comparison. Conditions: as each contract states.
-/
import Derived.Test.YtijbagpoojjbcaaDoorOwn
import Derived.Test.YtijbagpoojjbcaaDoorChecked
import Derived.Lib.Bytealg
import Derived.WalkSpells
import Derived.BigQuiet
import Derived.Deep.QuietTactic
namespace Go.Proofs.YtijbagpoojjbcaaDoor.cmp
open Go.ChangeShapes Go.WideShapes Go.ChangeAt Go.RowKit
open Go.Proofs.YtijbagpoojjbcaaDoor.own
set_option linter.unusedVariables false

set_option maxHeartbeats 1000000 in
set_option maxRecDepth 100000 in
theorem compareString (a b : ByteArray) (w : World) :
    Calls Tryd.prog 16 #[.string a, .string b] w fun e w' => e = .returned (.int .i64 (Lib.compareBytes a.data.toList b.data.toList)) ∧ w = w' := by
  go_enter Tryd.func16, Tryd.ntmps16
  go_wp2
  rw [run_callFunc_extern Tryd.func24 (by kernel_rfl) (by kernel_rfl) (by kernel_rfl) (e := Extern.BytealgCompare.compare) (by kernel_rfl), Lib.run_compareString]
  simp only [Result.andThen]
  rw [Oper.upon_value]
  go_wp2
  go_ret
  exact ⟨rfl, rfl⟩
theorem strCompare (a b : ByteArray) (w : World) :
    Calls Tryd.prog 9 #[.string a, .string b] w fun e w' => e = .returned (.int .i64 (Lib.compareBytes a.data.toList b.data.toList)) ∧ w = w' := by
  go_enter Tryd.func9, Tryd.ntmps9
  go_wp2_with fail
  refine (compareString a b _).mono ?_
  rintro e w' ⟨rfl, rfl⟩
  go_wp2
  go_ret
  exact ⟨rfl, rfl⟩
theorem listCompare (a b : ByteArray) (v : Value) (w : World) :
    Calls Tryd.prog 7 #[.agg #[.bool false, v], .string a, .string b] w fun e w' => e = .returned (.int .i64 (Lib.compareBytes a.data.toList b.data.toList)) ∧ Below w.heap.size w w' := by
  go_enter Tryd.func7, Tryd.ntmps7
  go_wp2_with fail
  refine (strCompare a b _).mono ?_
  rintro e w' ⟨rfl, rfl⟩
  go_wp2
  go_ret
  exact ⟨rfl, (Below.refl _ _).alloc (Nat.le_refl _) _⟩
theorem zzCompare (a b : ByteArray) (w : World) :
    Calls Tryd.prog 5 #[.bool false, .string a, .string b] w fun e w' => e = .returned (.int .i64 (Lib.compareBytes a.data.toList b.data.toList)) ∧ Below w.heap.size w w' := by
  go_enter Tryd.func5, Tryd.ntmps5
  go_wp2_with fail
  refine (listCompare a b _ _).mono ?_
  rintro e w' ⟨rfl, hb⟩
  go_wp2
  go_ret
  exact ⟨rfl, hb⟩

/-- the comparison from place k on -/
def cmpAt (a b : ByteArray) (k : Nat) : Int := Lib.compareBytes (a.data.toList.drop k) (b.data.toList.drop k)
theorem from_zero (a b : ByteArray) : cmpAt a b 0 = Lib.compareBytes a.data.toList b.data.toList := rfl
theorem from_step (a b : ByteArray) (k : Nat) (ha : k < a.size) (hb : k < b.size) :
    cmpAt a b k = if (a[k].toNat : Int) < (b[k].toNat : Int) then -1 else if (b[k].toNat : Int) < (a[k].toNat : Int) then 1 else cmpAt a b (k + 1) := by
  unfold cmpAt
  rw [List.drop_eq_getElem_cons (l := a.data.toList) (by simpa using ha), List.drop_eq_getElem_cons (l := b.data.toList) (by simpa using hb)]
  show (if a[k] < b[k] then (-1 : Int) else if b[k] < a[k] then 1 else _) = _
  simp only [UInt8.lt_iff_toNat_lt, Int.ofNat_lt]
theorem from_end (a b : ByteArray) (k : Nat) (hk : k = a.size ∨ k = b.size) (ha : k ≤ a.size) (hb : k ≤ b.size) :
    cmpAt a b k = if a.size < b.size then -1 else if b.size < a.size then 1 else 0 := by
  unfold cmpAt
  have la : (a.data.toList.drop k).length = a.size - k := by simp
  have lb : (b.data.toList.drop k).length = b.size - k := by simp
  generalize a.data.toList.drop k = x at la
  generalize b.data.toList.drop k = y at lb
  cases x with
  | nil =>
    cases y with
    | nil => simp at la lb; rw [if_neg (by omega), if_neg (by omega)]; rfl
    | cons _ _ => simp at la lb; rw [if_pos (by omega)]; rfl
  | cons _ _ =>
    cases y with
    | nil => simp at la lb; rw [if_neg (by omega), if_pos (by omega)]; rfl
    | cons _ _ => simp at la lb; omega
/-- what the loop keeps -/
def Same (a b : ByteArray) (k : Nat) : Prop := Lib.compareBytes a.data.toList b.data.toList = cmpAt a b k
set_option maxHeartbeats 1000000 in
theorem byteCmp (a b : ByteArray) (w : World) (ha : a.size ≤ 1048576) (hb : b.size ≤ 1048576) :
    Calls Tryd.prog 6 #[.string a, .string b] w fun e w' => e = .returned (.int .i64 (Lib.compareBytes a.data.toList b.data.toList)) ∧ Below w.heap.size w w' := by
  by_cases hlt : b.size < a.size
  all_goals
    go_enter Tryd.func6, Tryd.ntmps6
    go_wp2
    go_loopw [6] (fun i wr => ∃ k : Nat, k ≤ a.size ∧ k ≤ b.size ∧ i = .int .i64 k ∧ Same a b k ∧ Below w.heap.size w wr) (fun i _ => a.size - (intOf i).toNat)
    case atStart => exact ⟨0, by omega, by omega, rfl, rfl, Below.refl _ _⟩
    case round =>
      obtain ⟨k, hka, hkb, rfl, hs, hw⟩ := hrel
      have HS := Lib.hid hs
      clear hs
      have i1 : (0 : Int) ≤ (k : Int) := by omega
      by_cases hk : k < a.size ∧ k < b.size
      · obtain ⟨h1, h2⟩ := hk
        have ST := Lib.hid (from_step a b k h1 h2)
        have i2 : (k : Int) < (a.size : Int) := by omega
        have i3 : (k : Int) < (b.size : Int) := by omega
        by_cases hc1 : (a[k].toNat : Int) < (b[k].toNat : Int)
        · go_wp2
          go_quiet (fail)
          go_wp2
          go_ret
          refine ⟨ret_int ?_, ⟨hw.os, hw.tape, hw.output, hw.size, hw.block⟩⟩
          rw [show Lib.compareBytes a.data.toList b.data.toList = cmpAt a b k from HS.out, ST.out, if_pos (by omega)]
        · by_cases hc2 : (b[k].toNat : Int) < (a[k].toNat : Int)
          · go_wp2
            go_quiet (fail)
            go_wp2
            go_quiet (fail)
            go_wp2
            go_ret
            refine ⟨ret_int ?_, ⟨hw.os, hw.tape, hw.output, hw.size, hw.block⟩⟩
            rw [show Lib.compareBytes a.data.toList b.data.toList = cmpAt a b k from HS.out, ST.out, if_neg (by omega), if_pos (by omega)]
          · go_wp2
            go_quiet (fail)
            go_wp2
            go_quiet (fail)
            go_wp2
            go_roundw
            case rel => exact ⟨k + 1, by omega, by omega, by go_num, by
              show Lib.compareBytes a.data.toList b.data.toList = cmpAt a b (k + 1)
              rw [show Lib.compareBytes a.data.toList b.data.toList = cmpAt a b k from HS.out, ST.out, if_neg (by omega), if_neg (by omega)], ⟨hw.os, hw.tape, hw.output, hw.size, hw.block⟩⟩
            case measure => simp [intOf]; omega
      · have ED := Lib.hid (from_end a b k (by omega) hka hkb)
        have hk' : ¬ k < a.size ∨ ¬ k < b.size := by omega
        go_wp2
        all_goals
          go_ret
          refine ⟨ret_int ?_, hw⟩
          rw [show Lib.compareBytes a.data.toList b.data.toList = cmpAt a b k from HS.out, ED.out]
          first | (rw [if_pos (by omega)]; done) | (rw [if_neg (by omega), if_pos (by omega)]; done) | (rw [if_neg (by omega), if_neg (by omega)]; done)
end Go.Proofs.YtijbagpoojjbcaaDoor.cmp
