/-
  Plain lists: pieces that are joined by a separator byte. No program; no condition.
-/
import Derived.Test.YtljbaachfbcbbaaOwn
namespace Go.Proofs.Ytljbaachfbcbbaa.path

def bl (s : ByteArray) : List UInt8 := s.data.toList
/-- each piece followed by the separator -/
def E (sep : UInt8) : List ByteArray → List UInt8
  | [] => []
  | p :: r => bl p ++ sep :: E sep r
/-- the pieces joined by the separator -/
def J (sep : UInt8) : List ByteArray → List UInt8
  | [] => []
  | [p] => bl p
  | p :: q :: r => bl p ++ sep :: J sep (q :: r)
theorem E_append (sep : UInt8) (xs ys : List ByteArray) : E sep (xs ++ ys) = E sep xs ++ E sep ys := by
  induction xs with
  | nil => rfl
  | cons p r ih => simp [E, ih]
theorem E_snoc (sep : UInt8) (xs : List ByteArray) (p : ByteArray) : E sep (xs ++ [p]) = E sep xs ++ (bl p ++ [sep]) := by
  rw [E_append]; rfl
theorem J_append (sep : UInt8) (xs ys : List ByteArray) (h : ys ≠ []) : J sep (xs ++ ys) = E sep xs ++ J sep ys := by
  induction xs with
  | nil => rfl
  | cons p r ih =>
    cases hr : r ++ ys with
    | nil => simp at hr; exact absurd hr.2 h
    | cons q t =>
      rw [List.cons_append, hr]
      show bl p ++ sep :: J sep (q :: t) = bl p ++ sep :: E sep r ++ J sep ys
      rw [← hr, ih]; simp
theorem J_snoc (sep : UInt8) (xs : List ByteArray) (p : ByteArray) : J sep (xs ++ [p]) = E sep xs ++ bl p := J_append sep xs [p] (by simp)
theorem E_eq (sep : UInt8) (xs : List ByteArray) (h : xs ≠ []) : E sep xs = J sep xs ++ [sep] := by
  obtain ⟨l, p, rfl⟩ : ∃ l p, xs = l ++ [p] := ⟨xs.dropLast, xs.getLast h, (List.dropLast_concat_getLast h).symm⟩
  rw [E_snoc, J_snoc]; simp
theorem E_length (sep : UInt8) (xs : List ByteArray) : xs.length ≤ (E sep xs).length := by
  induction xs with
  | nil => simp
  | cons p r ih => simp [E]; omega
theorem J_length (sep : UInt8) (xs : List ByteArray) : (J sep xs).length ≤ (E sep xs).length := by
  cases xs with
  | nil => simp [J]
  | cons p r => rw [E_eq sep (p :: r) (by simp)]; simp
theorem E_take_le (sep : UInt8) (xs : List ByteArray) (k : Nat) : (E sep (xs.take k)).length ≤ (E sep xs).length := by
  have h := congrArg List.length (E_append sep (xs.take k) (xs.drop k))
  rw [List.take_append_drop] at h; simp at h; omega
theorem extract_bl (s : ByteArray) (i j : Nat) : bl (s.extract i j) = ((bl s).take j).drop i := by
  unfold bl
  rw [ByteArray.data_extract, Array.toList_extract]
  rw [List.extract_eq_take_drop, List.drop_take]
theorem bl_length (s : ByteArray) : (bl s).length = s.size := by simp [bl]
theorem bl_inj {s t : ByteArray} (h : bl s = bl t) : s = t := by
  cases s; cases t; congr 1; exact Array.toList_inj.1 h
end Go.Proofs.Ytljbaachfbcbbaa.path
