/-
  Contracts of pathJoin2 and of the law's own b13Sep. No condition beyond the strings' sizes.
-/
import Derived.Test.YtljbaachfbcbbaaPath
import Derived.Lib.Strings
namespace Go.Proofs.Ytljbaachfbcbbaa.path
open Go.ChangeShapes Go.WideShapes Go.ChangeAt Go.RowKit
open Go.Proofs.Ytljbaachfbcbbaa.own
set_option linter.unusedVariables false

theorem ne_list {a : ByteArray} (h : 0 < a.size) : a.toList ≠ [] ∧ a.toList.isEmpty = false := by
  have e : a.toList.length = a.size := by rw [Lib.toList_data]; exact (Lib.size_eq a).symm
  constructor
  · intro h0; rw [h0] at e; simp at e; omega
  · cases h0 : a.toList with
    | nil => rw [h0] at e; simp at e; omega
    | cons _ _ => rfl
set_option maxHeartbeats 2000000 in
theorem pj_yes (a b : ByteArray) (w : World) (hs : a.size ≤ 1048576) (hb : b.size ≤ 1048576) (h0 : 0 < a.size) (hx : ((a.extract (a.size - 1) a.size).toList == [47]) = true) :
    Calls Try.prog 16 #[.string a, .string b] w fun e w' => e = .returned (.string (a ++ b)) ∧ w = w' := by
  obtain ⟨n1, n2⟩ := ne_list h0
  go_enter Try.func16, Try.ntmps16
  go_wp2
  go_ret
  exact ⟨rfl, rfl⟩
set_option maxHeartbeats 2000000 in
theorem pj_no (a b : ByteArray) (w : World) (hs : a.size ≤ 1048576) (hb : b.size ≤ 1048576) (h0 : 0 < a.size) (hx : ((a.extract (a.size - 1) a.size).toList == [47]) = false) :
    Calls Try.prog 16 #[.string a, .string b] w fun e w' => e = .returned (.string (a ++ ⟨#[47]⟩ ++ b)) ∧ w = w' := by
  obtain ⟨n1, n2⟩ := ne_list h0
  go_enter Try.func16, Try.ntmps16
  go_wp2
  go_ret
  exact ⟨rfl, rfl⟩
theorem pj_nil (b : ByteArray) (w : World) :
    Calls Try.prog 16 #[.string ⟨#[]⟩, .string b] w fun e w' => e = .returned (.string b) ∧ w = w' := by
  go_enter Try.func16, Try.ntmps16
  go_wp2
  go_ret
  exact ⟨rfl, rfl⟩
theorem pj_ab (w : World) : Calls Try.prog 16 #[.string ⟨#[97]⟩, .string ⟨#[98]⟩] w fun e w' => e = .returned (.string ⟨#[97, 47, 98]⟩) ∧ w = w' :=
  (pj_no ⟨#[97]⟩ ⟨#[98]⟩ w (by decide) (by decide) (by decide) (by rw [Lib.toList_data]; rfl)).mono fun e w' h => ⟨h.1.trans (by rfl), h.2⟩
theorem sep_is (w : World) : Calls Try.prog 15 #[] w fun e w' => e = .returned (.tuple #[.int .u8 47, .bool true]) ∧ w = w' := by
  go_enter Try.func15, Try.ntmps15
  go_wp2_with (go_at_call 16; refine (pj_ab _).mono ?_; rintro e w' ⟨rfl, rfl⟩)
  go_ret2
  exact ⟨rfl, rfl⟩
theorem ends_iff (a : ByteArray) (h0 : 0 < a.size) : ((a.extract (a.size - 1) a.size).toList == [47]) = true ↔ (bl a)[a.size - 1]? = some 47 := by
  have e : (a.extract (a.size - 1) a.size).toList = [a[a.size - 1]'(by omega)] := by
    rw [Lib.toList_data]
    show bl _ = _
    rw [extract_bl, List.take_of_length_le (by rw [bl_length]; exact Nat.le_refl _)]
    have hl := bl_length a
    rw [List.drop_eq_getElem_cons (by omega), List.drop_of_length_le (by omega)]
    rfl
  rw [e, bl_at a _ (by omega)]
  simp
end Go.Proofs.Ytljbaachfbcbbaa.path
