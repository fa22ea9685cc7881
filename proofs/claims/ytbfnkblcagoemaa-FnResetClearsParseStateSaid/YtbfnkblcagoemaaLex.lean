/-
  The one statement of ZZstate, a region of 170 operations, joined out of LexA's parts. No conditions.
-/
import Derived.Test.YtbfnkblcagoemaaLexA
namespace Go.Proofs.Ytbfnkblcagoemaa.resets
open Go.RowKit
theorem marks_zero (n : Nat) : Array.replicate n false = marks n 0 := by
  apply Array.ext
  · simp [marks]
  · intro i h1 h2; simp [marks]
theorem marks_step (n k : Nat) : (marks n k).setIfInBounds k true = marks n (k + 1) := by
  apply Array.ext
  · simp [marks]
  · intro i h1 h2
    rw [Array.getElem_setIfInBounds]
    · by_cases e : k = i
      · subst e; simp [marks]
      · rw [if_neg e]
        simp [marks]
        omega
    · simpa [marks] using h1
theorem lexHead_of (ops : Array Oper) (n g : Nat) : ∀ f k, (∀ j, k ≤ j → j < k + f → stepB ops n j = true) → Region.seqB .any ops g (k + f) (marks n (k + f)) = true → Region.lexHead .any ops g f k (marks n k) = true
  | 0, k, _, h => h
  | f + 1, k, hs, h => by
    have h0 := hs k (Nat.le_refl _) (by omega)
    unfold stepB at h0
    unfold Region.lexHead
    rw [h0, marks_step, Bool.true_and]
    exact lexHead_of ops n g f (k + 1) (fun j h1 h2 => hs j (by omega) (by omega)) (by rw [show k + 1 + f = k + (f + 1) by omega]; exact h)
theorem part_of {a n : Nat} (h : ((List.range' a n).all fun k => stepB ops15 170 k) = true) : ∀ j, a ≤ j → j < a + n → stepB ops15 170 j = true := fun j h1 h2 => List.all_eq_true.1 h j (List.mem_range'_1.2 ⟨h1, h2⟩)
theorem steps15 (j : Nat) (h : j < 169) : stepB ops15 170 j = true := by
  by_cases h10 : j < 10
  · exact part_of part0 j (by omega) (by omega)
  by_cases h20 : j < 20
  · exact part_of part10 j (by omega) (by omega)
  by_cases h30 : j < 30
  · exact part_of part20 j (by omega) (by omega)
  by_cases h40 : j < 40
  · exact part_of part30 j (by omega) (by omega)
  by_cases h50 : j < 50
  · exact part_of part40 j (by omega) (by omega)
  by_cases h60 : j < 60
  · exact part_of part50 j (by omega) (by omega)
  by_cases h70 : j < 70
  · exact part_of part60 j (by omega) (by omega)
  by_cases h80 : j < 80
  · exact part_of part70 j (by omega) (by omega)
  by_cases h90 : j < 90
  · exact part_of part80 j (by omega) (by omega)
  by_cases h100 : j < 100
  · exact part_of part90 j (by omega) (by omega)
  by_cases h110 : j < 110
  · exact part_of part100 j (by omega) (by omega)
  by_cases h120 : j < 120
  · exact part_of part110 j (by omega) (by omega)
  by_cases h130 : j < 130
  · exact part_of part120 j (by omega) (by omega)
  by_cases h140 : j < 140
  · exact part_of part130 j (by omega) (by omega)
  by_cases h150 : j < 150
  · exact part_of part140 j (by omega) (by omega)
  by_cases h160 : j < 160
  · exact part_of part150 j (by omega) (by omega)
  by_cases h169 : j < 169
  · exact part_of part160 j (by omega) (by omega)
  omega
theorem lex15 : Region.lexTailB .any ops15 169 = true := by
  have h := lexHead_of ops15 170 1 169 0 (fun j _ h => steps15 j (by omega)) seq15
  unfold Region.lexTailB
  rw [sel15, sink15, chain15, size15, marks_zero]
  simpa using h
theorem sink15b : Region.sinkB .any ops15 168 = true := by kernel_rfl
theorem chain15b : Region.chainB .any ops15 168 = true := by kernel_rfl
theorem seq15b : Region.seqB .any ops15 2 168 (marks 170 168) = true := by kernel_rfl
theorem lex15b : Region.lexTailB .any ops15 168 = true := by
  have h := lexHead_of ops15 170 2 168 0 (fun j _ h => steps15 j (by omega)) seq15b
  unfold Region.lexTailB
  rw [sel15, sink15b, chain15b, size15, marks_zero]
  simpa using h
theorem lex_ofb {l : List Oper} (h : l.toArray = ops15) : Region.lexTailB .any l.toArray 168 = true := by rw [h]; exact lex15b
theorem lex_of {l : List Oper} (h : l.toArray = ops15) : Region.lexTailB .any l.toArray 169 = true := by rw [h]; exact lex15
end Go.Proofs.Ytbfnkblcagoemaa.resets
