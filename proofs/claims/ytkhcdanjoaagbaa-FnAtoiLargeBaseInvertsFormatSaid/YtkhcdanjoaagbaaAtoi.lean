/-
  What atoiLargeBase, and the law's own digit table and digit test, compute of every byte and every text. Condition: a text has at most 2^40 bytes.
-/
import Derived.Test.YtkhcdanjoaagbaaOwn
import Derived.Test.YtkhcdanjoaagbaaPlain
import Derived.Test.YtkhcdanjoaagbaaRows
namespace Go.Proofs.Ytkhcdanjoaagbaa.atoi
open Go.ChangeShapes Go.WideShapes Go.ChangeAt Go.RowKit Go.Proofs.Ytkhcdanjoaagbaa.plain Go.Proofs.Ytkhcdanjoaagbaa.own

abbrev tab : ByteArray := ⟨#[48, 49, 50, 51, 52, 53, 54, 55, 56, 57, 97, 98, 99, 100, 101, 102, 103, 104, 105, 106, 107, 108, 109, 110, 111, 112, 113, 114, 115, 116, 117, 118, 119, 120, 121, 122, 65, 66, 67, 68, 69, 70, 71, 72, 73, 74, 75, 76, 77, 78, 79, 80, 81, 82, 83, 84, 85, 86, 87, 88, 89, 90, 64, 95]⟩
def tabN (j : Nat) : Nat := (tab.data[j]?.getD 0).toNat
def dvN (c : Int) : Int :=
  if 48 ≤ c ∧ c ≤ 57 then c - 48 else if 97 ≤ c ∧ c ≤ 122 then c - 97 + 10 else if 65 ≤ c ∧ c ≤ 90 then c - 65 + 36 else if c = 64 then 62 else if c = 95 then 63 else -1
theorem tab_at (k : Nat) (h : k < tab.size) : tab[k].toNat = tabN k := by
  unfold tabN
  rw [Array.getElem?_eq_getElem (by exact h)]
  rfl
theorem tab_dv (k : Nat) (h : k < 64) : dvN (tabN k) = k := by
  have key : ∀ m : Fin 64, dvN (tabN m.val) = m.val := by decide +kernel
  exact key ⟨k, h⟩
theorem dv_tab (n : Nat) (h : n < 256) : dvN n = -1 ∨ (0 ≤ dvN n ∧ dvN n < 64 ∧ tabN (dvN n).toNat = n) := by
  have key : ∀ m : Fin 256, dvN m.val = -1 ∨ (0 ≤ dvN m.val ∧ dvN m.val < 64 ∧ tabN (dvN m.val).toNat = m.val) := by decide +kernel
  exact key ⟨n, h⟩
theorem hit (k : Nat) (h : k < tab.size) (c : Int) (he : ((tab[k].toNat : Int) == c) = true) : (k : Int) = dvN c := by
  have h64 : k < 64 := h
  have e : (tab[k].toNat : Int) = c := by simpa using he
  rw [tab_at k h] at e
  rw [← e, tab_dv k h64]
theorem miss (k : Nat) (h : k < tab.size) (c : Int) (he : ((tab[k].toNat : Int) == c) = false) : (tabN k : Int) ≠ c := by
  have e : (tab[k].toNat : Int) ≠ c := by simpa using he
  rw [tab_at k h] at e
  exact e
def missed (c : Int) (k : Nat) : Prop := ∀ j, j < k → (tabN j : Int) ≠ c
theorem missed_step {c : Int} {k : Nat} (h : missed c k) (hne : (tabN k : Int) ≠ c) : missed c (k + 1) := by
  intro j hj
  rcases Nat.lt_or_ge j k with hl | hl
  · exact h j hl
  · have e : j = k := by omega
    subst e; exact hne
theorem missed_all (c : Int) (h0 : 0 ≤ c) (h1 : c ≤ 255) (h : missed c 64) : -1 = dvN c := by
  obtain ⟨n, rfl⟩ := Int.eq_ofNat_of_zero_le h0
  rcases dv_tab n (by omega) with e | ⟨e1, e2, e3⟩
  · exact e.symm
  · exact absurd (congrArg (fun x : Nat => (x : Int)) e3) (h _ (by omega))
theorem digitVal_any (c : Int) (w : World) (h0 : 0 ≤ c) (h1 : c ≤ 255) :
    Calls Try.prog 25 #[.int .u8 c] w fun e w' => e = .returned (.int .i64 (dvN c)) ∧ w = w' := by
  go_enter Try.func25, Try.ntmps25
  go_wp2
  go_loop [3] (fun y => ∃ (k : Nat), k ≤ 64 ∧ y = .int .i64 k ∧ missed c k) (fun y => 64 - (intOf y).toNat)
  case atStart => exact ⟨0, by omega, rfl, fun j hj => absurd hj (by omega)⟩
  case round =>
    obtain ⟨k, hk, rfl, hm⟩ := hrel
    have HM := Lib.hid hm
    clear hm
    by_cases hlt : k < 64
    · go_wp2
      · go_ret
        exact ⟨ret_int (hit k hlt c (by assumption)), rfl⟩
      · have hne := miss k hlt c (by assumption)
        go_round
        case rel => exact ⟨k + 1, by omega, by go_num, missed_step HM.out hne⟩
        case measure => simp [intOf]; omega
    · obtain rfl : k = 64 := by omega
      go_wp2
      go_ret
      exact ⟨ret_int (missed_all c h0 h1 HM.out), rfl⟩

/-! ### the digit test over a text -/
def goodB (base : Int) (c : UInt8) : Bool := decide (0 ≤ dvN c.toNat) && decide (dvN c.toNat < base)
def allGood (base : Int) (l : List UInt8) : Bool := l.all (goodB base)
theorem take_snoc (s : ByteArray) (k : Nat) (h : k < s.size) : s.data.toList.take (k + 1) = s.data.toList.take k ++ [s[k]] := by
  rw [List.take_succ_eq_append_getElem (by simpa using h)]; rfl
theorem drop_cons (s : ByteArray) (k : Nat) (h : k < s.size) : s.data.toList.drop k = s[k] :: s.data.toList.drop (k + 1) := by
  rw [List.drop_eq_getElem_cons (by simpa using h)]; rfl
theorem all_step (base : Int) (s : ByteArray) (k : Nat) (h : k < s.size) (ha : allGood base (s.data.toList.take k) = true) (hg : goodB base s[k] = true) : allGood base (s.data.toList.take (k + 1)) = true := by
  rw [take_snoc s k h]; simp [allGood] at ha ⊢; exact ⟨ha, hg⟩
theorem all_bad (base : Int) (s : ByteArray) (k : Nat) (h : k < s.size) (hg : goodB base s[k] = false) : false = allGood base s.data.toList := by
  have hm : s[k] ∈ s.data.toList := by
    have : s[k] ∈ s.data.toList.drop k := by rw [drop_cons s k h]; simp
    exact List.mem_of_mem_drop this
  cases e : allGood base s.data.toList with
  | false => rfl
  | true => simp only [allGood, List.all_eq_true] at e; have := e _ hm; rw [hg] at this; cases this
set_option maxHeartbeats 1000000 in
theorem allDigits_any (s : ByteArray) (base : Int) (w : World) (hs : s.size ≤ 1099511627776) :
    Calls Try.prog 14 #[.string s, .int .i64 base] w fun e w' => e = .returned (.bool (allGood base s.data.toList)) ∧ w = w' := by
  go_enter Try.func14, Try.ntmps14
  go_wp2
  go_loop [5] (fun y => ∃ (k : Nat), k ≤ s.size ∧ y = .int .i64 k ∧ allGood base (s.data.toList.take k) = true) (fun y => s.size - (intOf y).toNat)
  case atStart => exact ⟨0, by omega, rfl, rfl⟩
  case round =>
    obtain ⟨k, hk, rfl, hm⟩ := hrel
    have HM := Lib.hid hm
    clear hm
    by_cases hlt : k < s.size
    · have hb : s[k].toNat < 256 := s[k].toNat_lt
      by_cases h1 : dvN (s[k].toNat : Int) < 0
      · have HB := Lib.hid (all_bad base s k hlt (by simp [goodB]; omega))
        go_wp2_with (go_at_call 25; refine (digitVal_any _ _ (by omega) (by omega)).mono ?_; rintro e w' ⟨rfl, rfl⟩)
        go_ret
        exact ⟨ret_bool HB.out, rfl⟩
      · by_cases h2 : base ≤ dvN (s[k].toNat : Int)
        · have HB := Lib.hid (all_bad base s k hlt (by simp [goodB]; omega))
          go_wp2_with (go_at_call 25; refine (digitVal_any _ _ (by omega) (by omega)).mono ?_; rintro e w' ⟨rfl, rfl⟩)
          go_ret
          exact ⟨ret_bool HB.out, rfl⟩
        · have HN := Lib.hid (all_step base s k hlt HM.out (by simp [goodB]; omega))
          go_wp2_with (go_at_call 25; refine (digitVal_any _ _ (by omega) (by omega)).mono ?_; rintro e w' ⟨rfl, rfl⟩)
          go_round
          case rel => exact ⟨k + 1, by omega, by go_num, HN.out⟩
          case measure => simp [intOf]; omega
    · obtain rfl : k = s.size := by omega
      go_wp2
      go_ret
      exact ⟨ret_bool (by have h := HM.out; rw [List.take_of_length_le (by simp)] at h; exact h.symm), rfl⟩

/-! ### atoiLargeBase -/
def atoiF (base : Int) : List UInt8 → Int → Int
  | [], n => n
  | c :: r, n => if dvN c.toNat < 0 then 0 else if base ≤ dvN c.toNat then 0 else atoiF base r (wrap64 (wrap64 (n * base) + dvN c.toNat))
theorem atoiF_bad (base : Int) (c : UInt8) (r : List UInt8) (n : Int) (h : dvN c.toNat < 0 ∨ base ≤ dvN c.toNat) : atoiF base (c :: r) n = 0 := by
  rw [atoiF]
  rcases h with h | h
  · rw [if_pos h]
  · by_cases h' : dvN c.toNat < 0
    · rw [if_pos h']
    · rw [if_neg h', if_pos h]
theorem atoiF_good (base : Int) (c : UInt8) (r : List UInt8) (n : Int) (h : 0 ≤ dvN c.toNat) (h' : dvN c.toNat < base) : atoiF base (c :: r) n = atoiF base r (wrap64 (wrap64 (n * base) + dvN c.toNat)) := by
  rw [atoiF, if_neg (by omega), if_neg (by omega)]
def atoiRel (base : Int) (s : ByteArray) (k : Nat) (n : Int) : Prop := atoiF base (s.data.toList.drop k) n = atoiF base s.data.toList 0
theorem atoi_step {base : Int} {s : ByteArray} {k : Nat} {n : Int} (hk : k < s.size) (h : atoiRel base s k n) (d : Int) (hd : dvN s[k].toNat = d) (h0 : 0 ≤ d) (h1 : d < base) : atoiRel base s (k + 1) (wrap64 (wrap64 (n * base) + d)) := by
  unfold atoiRel at h ⊢
  rw [drop_cons s k hk, atoiF_good base _ _ _ (by omega) (by omega), hd] at h
  exact h
theorem atoi_stop {base : Int} {s : ByteArray} {k : Nat} {n : Int} (hk : k < s.size) (h : atoiRel base s k n) (d : Int) (hd : dvN s[k].toNat = d) (h0 : d < 0 ∨ base ≤ d) : 0 = atoiF base s.data.toList 0 := by
  unfold atoiRel at h
  rw [drop_cons s k hk, atoiF_bad base _ _ _ (by omega)] at h
  exact h
theorem atoi_done {base : Int} {s : ByteArray} {n : Int} (h : atoiRel base s s.size n) : n = atoiF base s.data.toList 0 := by
  unfold atoiRel at h
  rw [List.drop_eq_nil_of_le (by simp)] at h
  exact h
theorem dv1 (c : Int) (h : 48 ≤ c) (h' : c ≤ 57) : dvN c = c - 48 := by unfold dvN; rw [if_pos ⟨h, h'⟩]
theorem dv2 (c : Int) (h : 97 ≤ c) (h' : c ≤ 122) : dvN c = c - 97 + 10 := by unfold dvN; rw [if_neg (by omega), if_pos ⟨h, h'⟩]
theorem dv3 (c : Int) (h : 65 ≤ c) (h' : c ≤ 90) : dvN c = c - 65 + 36 := by unfold dvN; rw [if_neg (by omega), if_neg (by omega), if_pos ⟨h, h'⟩]
theorem dv4 (c : Int) (h : c = 64) : dvN c = 62 := by subst h; rfl
theorem dv5 (c : Int) (h : c = 95) : dvN c = 63 := by subst h; rfl
theorem dv6 (c : Int) (h1 : ¬ (48 ≤ c ∧ c ≤ 57)) (h2 : ¬ (97 ≤ c ∧ c ≤ 122)) (h3 : ¬ (65 ≤ c ∧ c ≤ 90)) (h4 : c ≠ 64) (h5 : c ≠ 95) : dvN c = -1 := by
  unfold dvN; rw [if_neg h1, if_neg h2, if_neg h3, if_neg h4, if_neg h5]
set_option maxHeartbeats 4000000 in
theorem atoi_any (s : ByteArray) (base : Int) (w : World) (hs : s.size ≤ 1099511627776) :
    Calls Try.prog 24 #[.string s, .int .i64 base] w fun e w' => e = .returned (.int .i64 (atoiF base s.data.toList 0)) ∧ w = w' := by
  go_enter Try.func24, Try.ntmps24
  go_wp2
  go_loop [5, 11] (fun x y => ∃ (k : Nat) (n : Int), k ≤ s.size ∧ x = .int .i64 n ∧ y = .int .i64 k ∧ atoiRel base s k n) (fun _ y => s.size - (intOf y).toNat)
  case atStart => exact ⟨0, 0, by omega, rfl, rfl, rfl⟩
  case round =>
    obtain ⟨k, n, hk, rfl, rfl, hm⟩ := hrel
    have HM := Lib.hid hm
    clear hm
    by_cases hlt : k < s.size
    · have hb : s[k].toNat < 256 := s[k].toNat_lt
      have hcase : (0 ≤ (s[k].toNat : Int) ∧ (s[k].toNat : Int) ≤ 47) ∨ (48 ≤ (s[k].toNat : Int) ∧ (s[k].toNat : Int) ≤ 57) ∨ (58 ≤ (s[k].toNat : Int) ∧ (s[k].toNat : Int) ≤ 63) ∨ (64 ≤ (s[k].toNat : Int) ∧ (s[k].toNat : Int) ≤ 64) ∨ (65 ≤ (s[k].toNat : Int) ∧ (s[k].toNat : Int) ≤ 90) ∨ (91 ≤ (s[k].toNat : Int) ∧ (s[k].toNat : Int) ≤ 94) ∨ (95 ≤ (s[k].toNat : Int) ∧ (s[k].toNat : Int) ≤ 95) ∨ (96 ≤ (s[k].toNat : Int) ∧ (s[k].toNat : Int) ≤ 96) ∨ (97 ≤ (s[k].toNat : Int) ∧ (s[k].toNat : Int) ≤ 122) ∨ (123 ≤ (s[k].toNat : Int) ∧ (s[k].toNat : Int) ≤ 255) := by omega
      rcases hcase with ⟨g1, g2⟩ | ⟨g1, g2⟩ | ⟨g1, g2⟩ | ⟨g1, g2⟩ | ⟨g1, g2⟩ | ⟨g1, g2⟩ | ⟨g1, g2⟩ | ⟨g1, g2⟩ | ⟨g1, g2⟩ | ⟨g1, g2⟩
      · have e0 : ((s[k].toNat : Int) == 64) = false := by simp; omega
        have e1 : ((s[k].toNat : Int) == 95) = false := by simp; omega
        have HB := Lib.hid (atoi_stop hlt HM.out (-1) (dv6 _ (by omega) (by omega) (by omega) (by omega) (by omega)) (.inl (by omega)))
        go_wp2
        go_ret
        exact ⟨ret_int HB.out, rfl⟩
      · have e0 : ((s[k].toNat : Int) == 64) = false := by simp; omega
        have e1 : ((s[k].toNat : Int) == 95) = false := by simp; omega
        by_cases hd : base ≤ (s[k].toNat : Int) - 48
        · have HB := Lib.hid (atoi_stop hlt HM.out ((s[k].toNat : Int) - 48) (dv1 _ (by omega) (by omega)) (.inr hd))
          go_wp2
          go_ret
          exact ⟨ret_int HB.out, rfl⟩
        · have HN := Lib.hid (atoi_step hlt HM.out ((s[k].toNat : Int) - 48) (dv1 _ (by omega) (by omega)) (by omega) (by omega))
          go_wp2
          go_round
          case rel => exact ⟨k + 1, _, by omega, rfl, by go_num, HN.out⟩
          case measure => simp [intOf]; omega
      · have e0 : ((s[k].toNat : Int) == 64) = false := by simp; omega
        have e1 : ((s[k].toNat : Int) == 95) = false := by simp; omega
        have HB := Lib.hid (atoi_stop hlt HM.out (-1) (dv6 _ (by omega) (by omega) (by omega) (by omega) (by omega)) (.inl (by omega)))
        go_wp2
        go_ret
        exact ⟨ret_int HB.out, rfl⟩
      · have e0 : ((s[k].toNat : Int) == 64) = true := by simp; omega
        by_cases hd : base ≤ 62
        · have HB := Lib.hid (atoi_stop hlt HM.out (62) (dv4 _ (by omega)) (.inr hd))
          go_wp2
          go_ret
          exact ⟨ret_int HB.out, rfl⟩
        · have HN := Lib.hid (atoi_step hlt HM.out (62) (dv4 _ (by omega)) (by omega) (by omega))
          go_wp2
          go_round
          case rel => exact ⟨k + 1, _, by omega, rfl, by go_num, HN.out⟩
          case measure => simp [intOf]; omega
      · have e0 : ((s[k].toNat : Int) == 64) = false := by simp; omega
        have e1 : ((s[k].toNat : Int) == 95) = false := by simp; omega
        by_cases hd : base ≤ (s[k].toNat : Int) - 65 + 36
        · have HB := Lib.hid (atoi_stop hlt HM.out ((s[k].toNat : Int) - 65 + 36) (dv3 _ (by omega) (by omega)) (.inr hd))
          go_wp2
          go_ret
          exact ⟨ret_int HB.out, rfl⟩
        · have HN := Lib.hid (atoi_step hlt HM.out ((s[k].toNat : Int) - 65 + 36) (dv3 _ (by omega) (by omega)) (by omega) (by omega))
          go_wp2
          go_round
          case rel => exact ⟨k + 1, _, by omega, rfl, by go_num, HN.out⟩
          case measure => simp [intOf]; omega
      · have e0 : ((s[k].toNat : Int) == 64) = false := by simp; omega
        have e1 : ((s[k].toNat : Int) == 95) = false := by simp; omega
        have HB := Lib.hid (atoi_stop hlt HM.out (-1) (dv6 _ (by omega) (by omega) (by omega) (by omega) (by omega)) (.inl (by omega)))
        go_wp2
        go_ret
        exact ⟨ret_int HB.out, rfl⟩
      · have e0 : ((s[k].toNat : Int) == 64) = false := by simp; omega
        have e1 : ((s[k].toNat : Int) == 95) = true := by simp; omega
        by_cases hd : base ≤ 63
        · have HB := Lib.hid (atoi_stop hlt HM.out (63) (dv5 _ (by omega)) (.inr hd))
          go_wp2
          go_ret
          exact ⟨ret_int HB.out, rfl⟩
        · have HN := Lib.hid (atoi_step hlt HM.out (63) (dv5 _ (by omega)) (by omega) (by omega))
          go_wp2
          go_round
          case rel => exact ⟨k + 1, _, by omega, rfl, by go_num, HN.out⟩
          case measure => simp [intOf]; omega
      · have e0 : ((s[k].toNat : Int) == 64) = false := by simp; omega
        have e1 : ((s[k].toNat : Int) == 95) = false := by simp; omega
        have HB := Lib.hid (atoi_stop hlt HM.out (-1) (dv6 _ (by omega) (by omega) (by omega) (by omega) (by omega)) (.inl (by omega)))
        go_wp2
        go_ret
        exact ⟨ret_int HB.out, rfl⟩
      · have e0 : ((s[k].toNat : Int) == 64) = false := by simp; omega
        have e1 : ((s[k].toNat : Int) == 95) = false := by simp; omega
        by_cases hd : base ≤ (s[k].toNat : Int) - 97 + 10
        · have HB := Lib.hid (atoi_stop hlt HM.out ((s[k].toNat : Int) - 97 + 10) (dv2 _ (by omega) (by omega)) (.inr hd))
          go_wp2
          go_ret
          exact ⟨ret_int HB.out, rfl⟩
        · have HN := Lib.hid (atoi_step hlt HM.out ((s[k].toNat : Int) - 97 + 10) (dv2 _ (by omega) (by omega)) (by omega) (by omega))
          go_wp2
          go_round
          case rel => exact ⟨k + 1, _, by omega, rfl, by go_num, HN.out⟩
          case measure => simp [intOf]; omega
      · have e0 : ((s[k].toNat : Int) == 64) = false := by simp; omega
        have e1 : ((s[k].toNat : Int) == 95) = false := by simp; omega
        have HB := Lib.hid (atoi_stop hlt HM.out (-1) (dv6 _ (by omega) (by omega) (by omega) (by omega) (by omega)) (.inl (by omega)))
        go_wp2
        go_ret
        exact ⟨ret_int HB.out, rfl⟩
    · obtain rfl : k = s.size := by omega
      go_wp2
      go_ret
      exact ⟨ret_int (atoi_done HM.out), rfl⟩
end Go.Proofs.Ytkhcdanjoaagbaa.atoi
