/-
  Decimal numerals, and the contract of the law's own zzParse at a numeral that strconv.Itoa writes. Conditions: the number fits an int.
-/
import Derived.Test.YtcemogndiblooaaDoorVars
import Derived.Lib.ItoaNum
namespace Go.Proofs.YtcemogndiblooaaDoor.parse
open Go.ChangeShapes Go.WideShapes Go.ChangeAt Go.RowKit Go.Lib
set_option linter.unusedVariables false

def valA (a : Nat) : List UInt8 → Nat
  | [] => a
  | c :: r => valA (a * 10 + (c.toNat - 48)) r
def val (l : List UInt8) : Nat := valA 0 l
theorem valA_app (a : Nat) (l r : List UInt8) : valA a (l ++ r) = valA (valA a l) r := by
  induction l generalizing a with
  | nil => rfl
  | cons c l ih => exact ih _
theorem valA_ge (a : Nat) (l : List UInt8) : a ≤ valA a l := by
  induction l generalizing a with
  | nil => exact Nat.le_refl _
  | cons c l ih => exact Nat.le_trans (by omega) (ih _)
theorem val_snoc (l : List UInt8) (c : UInt8) : val (l ++ [c]) = val l * 10 + (c.toNat - 48) := by unfold val; rw [valA_app]; rfl
theorem val_take_le (l : List UInt8) (k : Nat) : val (l.take k) ≤ val l := by
  have h : val l = valA (val (l.take k)) (l.drop k) := by unfold val; rw [← valA_app, List.take_append_drop]
  rw [h]; exact valA_ge _ _
theorem dig_toNat (d : Nat) (h : d < 10) : (UInt8.ofNat (48 + d)).toNat = 48 + d := by
  rw [UInt8.toNat_ofNat']; omega
theorem val_dec (u : Nat) : val (decDigits u) = u := by
  induction u using Nat.strongRecOn with
  | _ u ih =>
    by_cases h : u < 10
    · rw [decDigits, dif_pos h]
      show 0 * 10 + ((UInt8.ofNat (48 + u)).toNat - 48) = u
      rw [dig_toNat u h]; omega
    · rw [decDigits, dif_neg h, val_snoc, ih (u / 10) (by omega), dig_toNat _ (by omega)]; omega
theorem dec_digs (u : Nat) : ∀ c ∈ decDigits u, 48 ≤ c.toNat ∧ c.toNat ≤ 57 := by
  induction u using Nat.strongRecOn with
  | _ u ih =>
    by_cases h : u < 10
    · rw [decDigits, dif_pos h]
      intro c hc
      obtain rfl : c = UInt8.ofNat (48 + u) := by simpa using hc
      rw [dig_toNat u h]; omega
    · rw [decDigits, dif_neg h]
      intro c hc
      rcases List.mem_append.1 hc with hc | hc
      · exact ih (u / 10) (by omega) c hc
      · obtain rfl : c = UInt8.ofNat (48 + u % 10) := by simpa using hc
        rw [dig_toNat _ (by omega)]; omega
theorem dec_len (k : Nat) : ∀ u, u < 10 ^ (k + 1) → (decDigits u).length ≤ k + 1 := by
  induction k with
  | zero => intro u h; rw [decDigits, dif_pos (by simpa using h)]; simp
  | succ k ih =>
    intro u h
    by_cases h2 : u < 10
    · rw [decDigits, dif_pos h2]; simp
    · rw [decDigits, dif_neg h2, List.length_append]
      have := ih (u / 10) (by rw [Nat.pow_succ] at h; omega)
      simp; omega
theorem dec_ne (u : Nat) : 0 < (decDigits u).length := by
  rw [decDigits]; split <;> simp
theorem dec_head (u : Nat) (h1 : 1 ≤ u) : ∃ c r, decDigits u = c :: r ∧ c.toNat ≠ 48 := by
  induction u using Nat.strongRecOn with
  | _ u ih =>
    by_cases h : u < 10
    · rw [decDigits, dif_pos h]
      exact ⟨_, [], rfl, by rw [dig_toNat u h]; omega⟩
    · rw [decDigits, dif_neg h]
      obtain ⟨c, r, e, hc⟩ := ih (u / 10) (by omega) (by omega)
      rw [e]; exact ⟨c, _, rfl, hc⟩
/-- D writes u in decimal -/
structure Writes (D : ByteArray) (u : Nat) : Prop where
  pos : 0 < D.size
  len : D.size ≤ 20
  dig : ∀ k (h : k < D.size), 48 ≤ (D[k]'h).toNat ∧ (D[k]'h).toNat ≤ 57
  le : ∀ k, val (D.data.toList.take k) ≤ u
  all : val D.data.toList = u
  head : u = 0 → D.size = 1
  head' : ∀ (h : 0 < D.size), 1 ≤ u → (D[0]'h).toNat ≠ 48
theorem at_list (D : ByteArray) (k : Nat) (h : k < D.size) : D.data.toList[k]? = some (D[k]'h) := by
  rw [List.getElem?_eq_getElem (by simpa using h)]; rfl
theorem writes_dec (u : Nat) (hu : u ≤ 9223372036854775808) : Writes ⟨(decDigits u).toArray⟩ u := by
  have hs : (⟨(decDigits u).toArray⟩ : ByteArray).size = (decDigits u).length := by simp [ByteArray.size]
  refine ⟨by rw [hs]; exact dec_ne u, ?_, ?_, ?_, ?_, ?_, ?_⟩
  · rw [hs]; have := dec_len 18 u (by omega); omega
  · intro k h
    exact dec_digs u _ (by
      have e := at_list ⟨(decDigits u).toArray⟩ k h
      exact List.mem_of_getElem? (by simpa using e))
  · intro k
    have h := val_take_le (decDigits u) k
    rw [val_dec] at h; simpa using h
  · simpa using val_dec u
  · rintro rfl; rw [hs, decDigits, dif_pos (by omega)]; rfl
  · intro h h1
    obtain ⟨c, r, e, hc⟩ := dec_head u h1
    have e2 := at_list ⟨(decDigits u).toArray⟩ 0 h
    have e3 : (⟨(decDigits u).toArray⟩ : ByteArray).data.toList[0]? = some c := by simp [e]
    have e4 := Option.some.inj (e2.symm.trans e3)
    rw [e4]; exact hc
theorem ne_beq {x y : Int} (h : x ≠ y) : (x == y) = false := by simpa using h
theorem val_step (D : ByteArray) (k : Nat) (h : k < D.size) : val (D.data.toList.take (k + 1)) = val (D.data.toList.take k) * 10 + ((D[k]'h).toNat - 48) := by
  rw [List.take_succ_eq_append_getElem (by simpa using h), val_snoc]; rfl
theorem take_all (D : ByteArray) : D.data.toList.take D.size = D.data.toList := List.take_of_length_le (by simp)
def PP (n : Int) (w : World) (e : Ending) (w' : World) : Prop := e = .returned (.tuple #[.int .i64 n, .bool true]) ∧ w = w'
set_option maxHeartbeats 4000000 in
theorem parse_pos (D : ByteArray) (u : Nat) (w : World) (hu : u ≤ 9223372036854775807) (hD : Writes D u) : Calls Tryd.prog 11 #[.string D] w (PP u w) := by
  have hp := hD.pos
  have hl := hD.len
  have h45 := hD.dig 0 hp
  have j1 : (((D[0]'hp).toNat : Int) == 45) = false := ne_beq (by omega)
  have j2 : decide ((0 : Int) < (D.size : Int)) = true := by simp; omega
  have j3 : ((D.size : Int) == 0) = false := ne_beq (by omega)
  have j4 : decide ((20 : Int) < (D.size : Int)) = false := by simp; omega
  have HD := Lib.hid hD
  by_cases hz : u = 0
  · have j5 : decide ((1 : Int) < (D.size : Int)) = false := by have := hD.head hz; simp; omega
    have j6 : (((D[0]'hp).toNat : Int) == 48) = true := by
      have a : val (D.data.toList.take 1) = val (D.data.toList.take 0) * 10 + ((D[0]'hp).toNat - 48) := val_step D 0 hp
      have b := hD.le 1
      rw [hz] at b
      have c : val (D.data.toList.take 0) = 0 := rfl
      have d : (D[0]'hp).toNat = 48 := by rw [c] at a; omega
      rw [d]; rfl
    clear hD h45
    go_enter Tryd.func11, Tryd.ntmps11
    go_wp2
    go_loop [5, 6] (fun m i => ∃ k : Nat, k ≤ D.size ∧ i = .int .i64 k ∧ m = .int .i64 (-(val (D.data.toList.take k) : Int))) (fun _ i => D.size - (intOf i).toNat)
    case atStart => exact ⟨0, by omega, rfl, rfl⟩
    case round =>
      obtain ⟨k, hk, rfl, rfl⟩ := hrel
      by_cases hlt : k < D.size
      · have hdig := HD.out.dig k hlt
        have hst := val_step D k hlt
        have hle := HD.out.le (k + 1)
        obtain ⟨v, hv⟩ : ∃ v, v = val (D.data.toList.take k) := ⟨_, rfl⟩
        obtain ⟨v2, hv2⟩ : ∃ v2, v2 = val (D.data.toList.take (k + 1)) := ⟨_, rfl⟩
        rw [← hv, ← hv2] at hst
        rw [← hv2] at hle
        rw [← hv]
        have HV2 := Lib.hid hv2
        obtain ⟨c, hc⟩ : ∃ c : Nat, c = (D[k]'hlt).toNat := ⟨_, rfl⟩
        rw [← hc] at hst hdig
        obtain ⟨g1, g2⟩ := hdig
        have HC := Lib.hid hc
        have HST := Lib.hid hst
        have b1 : -9223372036854775808 ≤ -(v : Int) * 10 - ((c : Int) - 48) := by omega
        have b2 : -9223372036854775808 ≤ -(v : Int) * 10 := by omega
        have b3 : -(v : Int) ≤ 0 := by omega
        have b4 : -9223372036854775808 ≤ -(v : Int) := by omega
        have f1 : decide (((D[k]'hlt).toNat : Int) < 48) = false := by rw [← HC.out]; simp; omega
        have f2 : decide ((57 : Int) < ((D[k]'hlt).toNat : Int)) = false := by rw [← HC.out]; simp; omega
        have f3 : 48 ≤ ((D[k]'hlt).toNat : Int) := by rw [← HC.out]; omega
        have f4 : ((D[k]'hlt).toNat : Int) ≤ 57 := by rw [← HC.out]; omega
        have HW := Lib.hid (show wrap64 (-(v : Int) * 10 - (((D[k]'hlt).toNat : Int) - 48)) = -(v2 : Int) by rw [← HC.out]; unfold wrap64; omega)
        clear hv hv2 hc hst hle
        go_wp2
        go_round
        case rel => exact ⟨k + 1, by omega, by go_num, by
          rw [← HV2.out]; congr 1 <;> exact HW.out⟩
        case measure => simp [intOf]; omega
      · obtain rfl : k = D.size := by omega
        have hu := HD.out.all
        rw [take_all] at *
        rw [hu]
        go_wp2
        go_ret2
        exact ⟨by simp, rfl⟩
  · have j5 : (((D[0]'hp).toNat : Int) == 48) = false := by have := hD.head' hp (by omega); exact ne_beq (by omega)
    clear hD h45
    go_enter Tryd.func11, Tryd.ntmps11
    go_wp2
    go_loop [5, 6] (fun m i => ∃ k : Nat, k ≤ D.size ∧ i = .int .i64 k ∧ m = .int .i64 (-(val (D.data.toList.take k) : Int))) (fun _ i => D.size - (intOf i).toNat)
    case atStart => exact ⟨0, by omega, rfl, rfl⟩
    case round =>
      obtain ⟨k, hk, rfl, rfl⟩ := hrel
      by_cases hlt : k < D.size
      · have hdig := HD.out.dig k hlt
        have hst := val_step D k hlt
        have hle := HD.out.le (k + 1)
        obtain ⟨v, hv⟩ : ∃ v, v = val (D.data.toList.take k) := ⟨_, rfl⟩
        obtain ⟨v2, hv2⟩ : ∃ v2, v2 = val (D.data.toList.take (k + 1)) := ⟨_, rfl⟩
        rw [← hv, ← hv2] at hst
        rw [← hv2] at hle
        rw [← hv]
        have HV2 := Lib.hid hv2
        obtain ⟨c, hc⟩ : ∃ c : Nat, c = (D[k]'hlt).toNat := ⟨_, rfl⟩
        rw [← hc] at hst hdig
        obtain ⟨g1, g2⟩ := hdig
        have HC := Lib.hid hc
        have HST := Lib.hid hst
        have b1 : -9223372036854775808 ≤ -(v : Int) * 10 - ((c : Int) - 48) := by omega
        have b2 : -9223372036854775808 ≤ -(v : Int) * 10 := by omega
        have b3 : -(v : Int) ≤ 0 := by omega
        have b4 : -9223372036854775808 ≤ -(v : Int) := by omega
        have f1 : decide (((D[k]'hlt).toNat : Int) < 48) = false := by rw [← HC.out]; simp; omega
        have f2 : decide ((57 : Int) < ((D[k]'hlt).toNat : Int)) = false := by rw [← HC.out]; simp; omega
        have f3 : 48 ≤ ((D[k]'hlt).toNat : Int) := by rw [← HC.out]; omega
        have f4 : ((D[k]'hlt).toNat : Int) ≤ 57 := by rw [← HC.out]; omega
        have HW := Lib.hid (show wrap64 (-(v : Int) * 10 - (((D[k]'hlt).toNat : Int) - 48)) = -(v2 : Int) by rw [← HC.out]; unfold wrap64; omega)
        clear hv hv2 hc hst hle
        go_wp2
        go_round
        case rel => exact ⟨k + 1, by omega, by go_num, by
          rw [← HV2.out]; congr 1 <;> exact HW.out⟩
        case measure => simp [intOf]; omega
      · obtain rfl : k = D.size := by omega
        have hu := HD.out.all
        rw [take_all] at *
        rw [hu]
        go_wp2
        go_ret2
        exact ⟨by simp, rfl⟩
set_option maxHeartbeats 4000000 in
theorem parse_neg (S D : ByteArray) (u : Nat) (w : World) (hu : u ≤ 9223372036854775808) (h1 : 1 ≤ u) (hD : Writes D u) (hs : S.size = D.size + 1) (h0 : (S[0]'(by omega)).toNat = 45) (hcut : S.extract 1 S.size = D) : Calls Tryd.prog 11 #[.string S] w (PP (-(u : Int)) w) := by
  have hp := hD.pos
  have hl := hD.len
  have hSp : 0 < S.size := by omega
  have i1 : (((S[0]'hSp).toNat : Int) == 45) = true := by rw [h0]; rfl
  have i2 : decide ((0 : Int) < (S.size : Int)) = true := by simp; omega
  have i3 : 1 ≤ S.size := by omega
  have j3 : ((D.size : Int) == 0) = false := ne_beq (by omega)
  have j4 : decide ((20 : Int) < (D.size : Int)) = false := by simp; omega
  have j5 : (((D[0]'hp).toNat : Int) == 48) = false := by have := hD.head' hp h1; exact ne_beq (by omega)
  have HD := Lib.hid hD
  clear hD hs h0
  go_enter Tryd.func11, Tryd.ntmps11
  go_wp2
  go_loop [5, 6] (fun m i => ∃ k : Nat, k ≤ D.size ∧ i = .int .i64 k ∧ m = .int .i64 (-(val (D.data.toList.take k) : Int))) (fun _ i => D.size - (intOf i).toNat)
  case atStart => exact ⟨0, by omega, rfl, rfl⟩
  case round =>
    obtain ⟨k, hk, rfl, rfl⟩ := hrel
    by_cases hlt : k < D.size
    · have hdig := HD.out.dig k hlt
      have hst := val_step D k hlt
      have hle := HD.out.le (k + 1)
      obtain ⟨v, hv⟩ : ∃ v, v = val (D.data.toList.take k) := ⟨_, rfl⟩
      obtain ⟨v2, hv2⟩ : ∃ v2, v2 = val (D.data.toList.take (k + 1)) := ⟨_, rfl⟩
      rw [← hv, ← hv2] at hst
      rw [← hv2] at hle
      rw [← hv]
      have HV2 := Lib.hid hv2
      obtain ⟨c, hc⟩ : ∃ c : Nat, c = (D[k]'hlt).toNat := ⟨_, rfl⟩
      rw [← hc] at hst hdig
      obtain ⟨g1, g2⟩ := hdig
      have HC := Lib.hid hc
      have HST := Lib.hid hst
      have b1 : -9223372036854775808 ≤ -(v : Int) * 10 - ((c : Int) - 48) := by omega
      have b2 : -9223372036854775808 ≤ -(v : Int) * 10 := by omega
      have b3 : -(v : Int) ≤ 0 := by omega
      have b4 : -9223372036854775808 ≤ -(v : Int) := by omega
      have f1 : decide (((D[k]'hlt).toNat : Int) < 48) = false := by rw [← HC.out]; simp; omega
      have f2 : decide ((57 : Int) < ((D[k]'hlt).toNat : Int)) = false := by rw [← HC.out]; simp; omega
      have f3 : 48 ≤ ((D[k]'hlt).toNat : Int) := by rw [← HC.out]; omega
      have f4 : ((D[k]'hlt).toNat : Int) ≤ 57 := by rw [← HC.out]; omega
      have HW := Lib.hid (show wrap64 (-(v : Int) * 10 - (((D[k]'hlt).toNat : Int) - 48)) = -(v2 : Int) by rw [← HC.out]; unfold wrap64; omega)
      clear hv hv2 hc hst hle
      go_wp2
      go_round
      case rel => exact ⟨k + 1, by omega, by go_num, by
        rw [← HV2.out]; congr 1 <;> exact HW.out⟩
      case measure => simp [intOf]; omega
    · obtain rfl : k = D.size := by omega
      have hu := HD.out.all
      rw [take_all] at *
      rw [hu]
      go_wp2
      go_ret2
      exact ⟨by simp, rfl⟩
end Go.Proofs.YtcemogndiblooaaDoor.parse
