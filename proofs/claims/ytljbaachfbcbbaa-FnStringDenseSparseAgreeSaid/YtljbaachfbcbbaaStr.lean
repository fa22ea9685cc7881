/-
  Contracts of Variable's indexedVal at index 0 and of its String, for a Variable of kind Indexed. Conditions: as each contract states.
-/
import Derived.Test.YtljbaachfbcbbaaBin
namespace Go.Proofs.Ytljbaachfbcbbaa.vars
open Go.ChangeShapes Go.WideShapes Go.ChangeAt Go.RowKit
open Go.Proofs.Ytljbaachfbcbbaa.own
set_option linter.unusedVariables false

/-- what indexedVal answers: the string and true, or the empty string and false -/
abbrev iv (s : ByteArray) (r : Bool) : Ending := .returned (.tuple #[.string s, .bool r])
theorem iv_dense0 (a0 : Bool) (al : Option Addr) (cl : Nat) (w : World) :
    Calls Try.prog 23 #[vr a0 false false false 3 ⟨#[]⟩ (.slice al 0 cl) (.slice none 0 0), .int .i64 0] w fun e w' => e = iv ⟨#[]⟩ false ∧ Below w.heap.size w w' := by
  have hq := fun w => run_neq_slice_nil_any (P := Try.prog) w 23 3 none 0 0 0 0 Try.underlying23
  go_enter Try.func23, Try.ntmps23
  go_wp2
  go_ret2
  exact ⟨rfl, (Below.refl _ _).alloc (Nat.le_refl _) _⟩
theorem iv_dense (a0 : Bool) (b off n cl : Nat) (s : ByteArray) (w : World) (hn : 0 < n) (hm : n ≤ 131072) (hc : w.cell? ⟨b, off, none⟩ = some (.string s)) :
    Calls Try.prog 23 #[vr a0 false false false 3 ⟨#[]⟩ (.slice (some ⟨b, off, none⟩) n cl) (.slice none 0 0), .int .i64 0] w fun e w' => e = iv s true ∧ Below w.heap.size w w' := by
  have hq := fun w => run_neq_slice_nil_any (P := Try.prog) w 23 3 none 0 0 0 0 Try.underlying23
  have hlt := cell_lt hc
  have i1 : (0 : Int) < (n : Int) := by omega
  go_enter Try.func23, Try.ntmps23
  go_wp2
  go_ret2
  exact ⟨rfl, (Below.refl _ _).alloc (Nat.le_refl _) _⟩
theorem iv_miss (a0 : Bool) (l : Value) (g o n c : Nat) (w : World)
    (hbin : ∀ w', Below w.heap.size w w' → w.heap.size ≤ w'.heap.size → Calls Try.prog 25 #[.slice (some ⟨g, o, none⟩) n c, .int .i64 0] w' fun e w2 => e = .returned (.tuple #[.int .i64 0, .bool false]) ∧ Below w'.heap.size w' w2) :
    Calls Try.prog 23 #[vr a0 false false false 3 ⟨#[]⟩ l (.slice (some ⟨g, o, none⟩) n c), .int .i64 0] w fun e w' => e = iv ⟨#[]⟩ false ∧ Below w.heap.size w w' := by
  have hq := fun w => run_neq_slice_nil_any (P := Try.prog) w 23 3 (some ⟨g, o, none⟩) n c 0 0 Try.underlying23
  have HB := Lib.hid hbin
  clear hbin
  go_enter Try.func23, Try.ntmps23
  go_wp2_with fail
  refine (HB.out _ ((Below.refl _ _).alloc (Nat.le_refl _) _) (by simp)).mono ?_
  rintro e w2 ⟨rfl, hb⟩
  have H := Lib.hid (((Below.refl w.heap.size w).alloc (Nat.le_refl _) _).trans (hb.mono (by simp)))
  clear hb
  go_wp2_with fail
  go_ret2
  exact ⟨rfl, H.out⟩
set_option maxHeartbeats 1000000 in
theorem iv_hit (a0 : Bool) (b off cl : Nat) (s : ByteArray) (g o n c : Nat) (w : World) (hn : 0 < n) (hm : n ≤ 131072) (hc : w.cell? ⟨b, off, none⟩ = some (.string s))
    (hbin : ∀ w', Below w.heap.size w w' → w.heap.size ≤ w'.heap.size → Calls Try.prog 25 #[.slice (some ⟨g, o, none⟩) n c, .int .i64 0] w' fun e w2 => e = .returned (.tuple #[.int .i64 0, .bool true]) ∧ Below w'.heap.size w' w2) :
    Calls Try.prog 23 #[vr a0 false false false 3 ⟨#[]⟩ (.slice (some ⟨b, off, none⟩) n cl) (.slice (some ⟨g, o, none⟩) n c), .int .i64 0] w fun e w' => e = iv s true ∧ Below w.heap.size w w' := by
  have hq := fun w => run_neq_slice_nil_any (P := Try.prog) w 23 3 (some ⟨g, o, none⟩) n c 0 0 Try.underlying23
  have hlt := cell_lt hc
  have HB := Lib.hid hbin
  have i1 : (0 : Int) < (n : Int) := by omega
  clear hbin
  go_enter Try.func23, Try.ntmps23
  go_wp2_with fail
  refine (HB.out _ ((Below.refl _ _).alloc (Nat.le_refl _) _) (by simp)).mono ?_
  rintro e w2 ⟨rfl, hb⟩
  have H := Lib.hid (((Below.refl w.heap.size w).alloc (Nat.le_refl _) _).trans (hb.mono (by simp)))
  have c1 := cb H.out (by exact hlt) hc
  have c2 := (bcell hb).1 w.heap.size 6 (by simp)
  clear hb
  simp at c2
  go_wp2_with fail
  go_ret2
  exact ⟨rfl, H.out⟩
/-- String of a Variable of kind Indexed is indexedVal's string -/
theorem string_of (a0 : Bool) (l i : Value) (s : ByteArray) (r : Bool) (w : World) (hs : r = false → s = ⟨#[]⟩)
    (h : ∀ w', Below w.heap.size w w' → w.heap.size ≤ w'.heap.size → Calls Try.prog 23 #[vr a0 false false false 3 ⟨#[]⟩ l i, .int .i64 0] w' fun e w2 => e = iv s r ∧ Below w'.heap.size w' w2) :
    Calls Try.prog 20 #[vr a0 false false false 3 ⟨#[]⟩ l i] w fun e w' => e = .returned (.string s) ∧ Below w.heap.size w w' := by
  have HB := Lib.hid h
  have HS := Lib.hid hs
  clear h hs
  go_enter Try.func20, Try.ntmps20
  go_wp2_with fail
  refine (HB.out _ ((Below.refl _ _).alloc (Nat.le_refl _) _) (by simp)).mono ?_
  rintro e w2 ⟨rfl, hb⟩
  have H := Lib.hid (((Below.refl w.heap.size w).alloc (Nat.le_refl _) _).trans (hb.mono (by simp)))
  clear hb
  cases r
  · obtain rfl := HS.out rfl
    go_wp2_with fail
    go_ret
    exact ⟨rfl, H.out⟩
  · go_wp2_with fail
    go_ret
    exact ⟨rfl, H.out⟩
end Go.Proofs.Ytljbaachfbcbbaa.vars
