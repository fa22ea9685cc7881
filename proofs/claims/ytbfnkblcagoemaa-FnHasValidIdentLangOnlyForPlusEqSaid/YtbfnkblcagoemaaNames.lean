/-
  What ValidName answers of every text of at most 2^40 bytes: nameB of its bytes; nothing that was there changes.
-/
import Derived.Test.YtbfnkblcagoemaaRows
import Derived.Test.YtbfnkblcagoemaaOwn
import Derived.Laws.RangeString
import Derived.Laws.RangeAny
import Derived.WalkLawsBesides
namespace Go.Proofs.Ytbfnkblcagoemaa.names
open Go.ChangeShapes Go.WideShapes Go.ChangeAt Go.RowKit Go.Proofs.Ytbfnkblcagoemaa.own
def startB (c : UInt8) : Bool := (decide (97 ≤ c.toNat) && decide (c.toNat ≤ 122)) || (decide (65 ≤ c.toNat) && decide (c.toNat ≤ 90)) || decide (c.toNat = 95)
def restB (c : UInt8) : Bool := startB c || (decide (48 ≤ c.toNat) && decide (c.toNat ≤ 57))
def nameB : List UInt8 → Bool
  | [] => false
  | c :: r => startB c && r.all restB
/-- the bytes before pos are such as a name may have there -/
def okUpto (s : ByteArray) (pos : Nat) : Prop := ∀ j (h : j < s.size), j < pos → (if j = 0 then startB s[j] else restB s[j]) = true
theorem ok_step {s : ByteArray} {pos : Nat} (h : okUpto s pos) (hp : pos < s.size) (hc : (if pos = 0 then startB s[pos] else restB s[pos]) = true) : okUpto s (pos + 1) := by
  intro j hj hlt
  rcases Nat.lt_or_ge j pos with h' | h'
  · exact h j hj h'
  · have e : j = pos := by omega
    subst e; exact hc
theorem list_of (s : ByteArray) (hs : 0 < s.size) : s.data.toList = s[0] :: s.data.toList.drop 1 := by
  have h := List.drop_eq_getElem_cons (l := s.data.toList) (i := 0) (by simpa using hs)
  rw [List.drop_zero] at h; exact h
theorem name_true {s : ByteArray} (hs : 0 < s.size) (h : okUpto s s.size) : true = nameB s.data.toList := by
  rw [list_of s hs]
  have h0 := h 0 hs hs
  simp only [if_pos] at h0
  simp only [nameB, h0, Bool.true_and]
  symm
  rw [List.all_eq_true]
  intro c hc
  obtain ⟨i, hi, rfl⟩ := List.getElem_of_mem hc
  have hi' : 1 + i < s.size := by simp at hi; omega
  have := h (1 + i) hi' hi'
  rw [if_neg (by omega)] at this
  rw [List.getElem_drop]
  exact this
theorem name_false {s : ByteArray} {pos : Nat} (hp : pos < s.size) (hc : (if pos = 0 then startB s[pos] else restB s[pos]) = false) : false = nameB s.data.toList := by
  rw [list_of s (by omega)]
  by_cases h0 : pos = 0
  · subst h0
    simp only [if_pos] at hc
    simp [nameB, hc]
  · rw [if_neg h0] at hc
    have hm : s[pos] ∈ s.data.toList.drop 1 := by
      rw [List.mem_iff_getElem]
      refine ⟨pos - 1, by simp; omega, ?_⟩
      rw [List.getElem_drop]
      have e : 1 + (pos - 1) = pos := by omega
      simp only [e]; rfl
    cases e : nameB (s[0] :: s.data.toList.drop 1) with
    | false => rfl
    | true =>
      simp only [nameB, Bool.and_eq_true, List.all_eq_true] at e
      have := e.2 _ hm
      rw [hc] at this; cases this
theorem not_empty {s : ByteArray} (h : ¬ s.size = 0) : s.toList.isEmpty = false := by
  obtain ⟨⟨l⟩⟩ := s
  cases l with
  | nil => exact absurd rfl h
  | cons c r => simp
set_option maxHeartbeats 2000000 in
theorem validName_any (s : ByteArray) (w : World) (hs : s.size ≤ 1099511627776) :
    Calls Try.prog 30 #[.string s] w fun e w' => e = .returned (.bool (nameB s.data.toList)) ∧ Below w.heap.size w w' := by
  by_cases h0 : s.size = 0
  · have he : s = ⟨#[]⟩ := by
      obtain ⟨d⟩ := s
      have : d.size = 0 := h0
      rw [Array.size_eq_zero_iff.1 this]
    subst he
    go_enter Try.func30, Try.ntmps30
    go_wp2
    go_ret
    exact ⟨rfl, Below.refl _ _⟩
  · have hne : s.toList.isEmpty = false := not_empty h0
    go_enter Try.func30, Try.ntmps30
    go_wp2
    go_loopw [] (fun wr => ∃ pos : Nat, pos ≤ s.size ∧ wr = w.iter s pos ∧ okUpto s pos) (fun wr => s.size - wr.iterPos w.heap.size)
    case atStart => exact ⟨0, by omega, rfl, fun j h hlt => absurd hlt (by omega)⟩
    case round =>
      obtain ⟨pos, hpos, rfl, ho⟩ := hrel
      have HO := Lib.hid ho
      clear ho
      by_cases hlt : pos < s.size
      · by_cases ha : s[pos].toNat < 128
        · have hnx := fun ty => run_next_ascii (P := Try.prog) w s pos ty hlt ha
          have hcase : (0 ≤ (s[pos].toNat : Int) ∧ (s[pos].toNat : Int) ≤ 47) ∨ (48 ≤ (s[pos].toNat : Int) ∧ (s[pos].toNat : Int) ≤ 57) ∨ (58 ≤ (s[pos].toNat : Int) ∧ (s[pos].toNat : Int) ≤ 64) ∨ (65 ≤ (s[pos].toNat : Int) ∧ (s[pos].toNat : Int) ≤ 90) ∨ (91 ≤ (s[pos].toNat : Int) ∧ (s[pos].toNat : Int) ≤ 94) ∨ (95 ≤ (s[pos].toNat : Int) ∧ (s[pos].toNat : Int) ≤ 95) ∨ (96 ≤ (s[pos].toNat : Int) ∧ (s[pos].toNat : Int) ≤ 96) ∨ (97 ≤ (s[pos].toNat : Int) ∧ (s[pos].toNat : Int) ≤ 122) ∨ (123 ≤ (s[pos].toNat : Int) ∧ (s[pos].toNat : Int) ≤ 127) := by omega
          rcases hcase with ⟨g1, g2⟩ | ⟨g1, g2⟩ | ⟨g1, g2⟩ | ⟨g1, g2⟩ | ⟨g1, g2⟩ | ⟨g1, g2⟩ | ⟨g1, g2⟩ | ⟨g1, g2⟩ | ⟨g1, g2⟩
          · have eu : ((s[pos].toNat : Int) == 95) = false := by simp; omega
            have HN := Lib.hid (name_false hlt (by split <;> (simp [restB, startB]; omega)))
            go_wp2
            all_goals go_ret
            all_goals exact ⟨ret_bool HN.out, (Below.refl _ _).alloc (Nat.le_refl _) _⟩
          · have eu : ((s[pos].toNat : Int) == 95) = false := by simp; omega
            by_cases hz : pos = 0
            · subst hz
              have HN := Lib.hid (name_false hlt (by simp [startB]; omega))
              go_wp2
              go_ret
              exact ⟨ret_bool HN.out, (Below.refl _ _).alloc (Nat.le_refl _) _⟩
            · have hz' : 0 < pos := by omega
              have HN := Lib.hid (ok_step HO.out hlt (by rw [if_neg hz]; simp [restB, startB]; omega))
              go_wp2
              go_roundw
              case rel => exact ⟨pos + 1, by omega, rfl, HN.out⟩
              case measure => simp; omega
          · have eu : ((s[pos].toNat : Int) == 95) = false := by simp; omega
            have HN := Lib.hid (name_false hlt (by split <;> (simp [restB, startB]; omega)))
            go_wp2
            all_goals go_ret
            all_goals exact ⟨ret_bool HN.out, (Below.refl _ _).alloc (Nat.le_refl _) _⟩
          · have eu : ((s[pos].toNat : Int) == 95) = false := by simp; omega
            have HN := Lib.hid (ok_step HO.out hlt (by split <;> (simp [restB, startB]; omega)))
            go_wp2
            go_roundw
            case rel => exact ⟨pos + 1, by omega, rfl, HN.out⟩
            case measure => simp; omega
          · have eu : ((s[pos].toNat : Int) == 95) = false := by simp; omega
            have HN := Lib.hid (name_false hlt (by split <;> (simp [restB, startB]; omega)))
            go_wp2
            all_goals go_ret
            all_goals exact ⟨ret_bool HN.out, (Below.refl _ _).alloc (Nat.le_refl _) _⟩
          · have eu : ((s[pos].toNat : Int) == 95) = true := by simp; omega
            have HN := Lib.hid (ok_step HO.out hlt (by split <;> (simp [restB, startB]; omega)))
            go_wp2
            go_roundw
            case rel => exact ⟨pos + 1, by omega, rfl, HN.out⟩
            case measure => simp; omega
          · have eu : ((s[pos].toNat : Int) == 95) = false := by simp; omega
            have HN := Lib.hid (name_false hlt (by split <;> (simp [restB, startB]; omega)))
            go_wp2
            all_goals go_ret
            all_goals exact ⟨ret_bool HN.out, (Below.refl _ _).alloc (Nat.le_refl _) _⟩
          · have eu : ((s[pos].toNat : Int) == 95) = false := by simp; omega
            have HN := Lib.hid (ok_step HO.out hlt (by split <;> (simp [restB, startB]; omega)))
            go_wp2
            go_roundw
            case rel => exact ⟨pos + 1, by omega, rfl, HN.out⟩
            case measure => simp; omega
          · have eu : ((s[pos].toNat : Int) == 95) = false := by simp; omega
            have HN := Lib.hid (name_false hlt (by split <;> (simp [restB, startB]; omega)))
            go_wp2
            all_goals go_ret
            all_goals exact ⟨ret_bool HN.out, (Below.refl _ _).alloc (Nat.le_refl _) _⟩
        · have hhi := decode_high s pos hlt (by omega)
          have hle := decode_le s pos
          have hnx := fun ty => run_next_any (P := Try.prog) w s pos ty hlt
          have HN := Lib.hid (name_false hlt (by split <;> (simp [restB, startB]; omega)))
          generalize hdec : Utf8.decode s pos = q at *
          obtain ⟨q1, q2⟩ := q
          have hq : 128 ≤ q1 := hhi.1
          have eu : ((q1 : Int) == 95) = false := by simp; omega
          clear hdec hhi hle
          go_wp2
          all_goals go_ret
          all_goals exact ⟨ret_bool HN.out, (Below.refl _ _).alloc (Nat.le_refl _) _⟩
      · have hnx := fun ty => run_next_end (P := Try.prog) w s pos ty hlt
        obtain rfl : pos = s.size := by omega
        go_wp2
        go_ret
        exact ⟨ret_bool (name_true (by omega) HO.out), (Below.refl _ _).alloc (Nat.le_refl _) _⟩
end Go.Proofs.Ytbfnkblcagoemaa.names
