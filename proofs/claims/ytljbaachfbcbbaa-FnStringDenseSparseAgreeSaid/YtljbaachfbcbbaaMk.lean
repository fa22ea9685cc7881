/-
  Contracts of mkVar and of Variable's methods IsSet and Declared, at a Variable whose Map is nil. No condition.
-/
import Derived.Test.YtljbaachfbcbbaaVars
namespace Go.Proofs.Ytljbaachfbcbbaa.vars
open Go.ChangeShapes Go.WideShapes Go.ChangeAt Go.RowKit
open Go.Proofs.Ytljbaachfbcbbaa.own
set_option linter.unusedVariables false

/-- the value of a Variable whose Map is nil -/
abbrev vr (a0 a1 a2 a3 : Bool) (k : Int) (s : ByteArray) (l i : Value) : Value := .agg #[.bool a0, .bool a1, .bool a2, .bool a3, .int .u8 k, .string s, l, .map none, i]
theorem mkVar_any (a0 a1 a2 a3 : Bool) (k : Int) (s : ByteArray) (a6 : Option Addr) (n6 c6 : Nat) (a7 : Option Addr) (n7 c7 : Nat) (w : World) :
    Calls Try.prog 11 #[.bool a0, .bool a1, .bool a2, .bool a3, .int .u8 k, .string s, .slice a6 n6 c6, .slice a7 n7 c7] w fun e w' =>
      e = .returned (vr a0 a1 a2 a3 k s (.slice a6 n6 c6) (.slice a7 n7 c7)) ∧ Below w.heap.size w w' := by
  go_enter Try.func11, Try.ntmps11
  go_wp2
  refine bodyPost_ret (v := vr a0 a1 a2 a3 k s (.slice a6 n6 c6) (.slice a7 n7 c7)) (by simp [results, Try.results11, go_sem]) rfl ⟨rfl, ?_⟩
  exact (Below.refl _ _).alloc (Nat.le_refl _) _
theorem isSet_any (a0 a1 a2 a3 : Bool) (k : Int) (s : ByteArray) (l i : Value) (w : World) :
    Calls Try.prog 12 #[vr a0 a1 a2 a3 k s l i] w fun e w' => e = .returned (.bool a0) ∧ Below w.heap.size w w' := by
  go_enter Try.func12, Try.ntmps12
  go_wp2
  go_ret
  exact ⟨rfl, (Below.refl _ _).alloc (Nat.le_refl _) _⟩
def decl (a0 a1 a2 a3 : Bool) (k : Int) : Bool := a0 || a1 || a2 || a3 || (k != 0)
theorem declared_any (a0 a1 a2 a3 : Bool) (k : Int) (s : ByteArray) (l i : Value) (w : World) :
    Calls Try.prog 13 #[vr a0 a1 a2 a3 k s l i] w fun e w' => e = .returned (.bool (decl a0 a1 a2 a3 k)) ∧ Below w.heap.size w w' := by
  cases a0 <;> cases a1 <;> cases a2 <;> cases a3 <;> (go_enter Try.func13, Try.ntmps13; go_wp2; go_ret; exact ⟨rfl, (Below.refl _ _).alloc (Nat.le_refl _) _⟩)

theorem bcell {W w1 : World} (hb : Below W.heap.size W w1) : (∀ b o, b < W.heap.size → w1.cell? ⟨b, o, none⟩ = W.cell? ⟨b, o, none⟩) ∧ (∀ b o, b < W.heap.size → w1.frozen? ⟨b, o, none⟩ = W.frozen? ⟨b, o, none⟩) :=
  ⟨fun b o h => hb.cell (p := ⟨b, o, none⟩) h, fun b o h => hb.frozen (p := ⟨b, o, none⟩) h⟩
theorem acell (w : World) (o : Obj) (b k : Nat) (h : b < w.heap.size) : (w.alloc o).cell? ⟨b, k, none⟩ = w.cell? ⟨b, k, none⟩ := ((Below.refl w.heap.size w).alloc (Nat.le_refl _) o).cell (p := ⟨b, k, none⟩) h
theorem decl_set (a1 a2 a3 : Bool) (k : Int) : decl true a1 a2 a3 k = true := rfl
/-- it answers a slice of n elements, and nothing old has changed -/
def Cp (n : Nat) (w : World) (e : Ending) (w' : World) : Prop := ∃ a' c', e = .returned (.slice a' n c') ∧ Below w.heap.size w w'
theorem cloneS_cp (a : Option Addr) (n c : Nat) (f : Nat → ByteArray) (w : World) (hn : n ≤ 131072) (h0 : a = none → n = 0 ∧ c = 0) (h : SR w a n f) :
    Calls Try.prog 9 #[.slice a n c] w (Cp n w) := by
  cases a with
  | none => obtain ⟨rfl, rfl⟩ := h0 rfl; exact (cloneS_nil w).mono fun _ _ ⟨he, hw⟩ => ⟨_, _, he, hw ▸ Below.refl _ _⟩
  | some x =>
    by_cases hz : n = 0
    · subst hz; exact (cloneS_empty x c w).mono fun _ _ ⟨he, hw⟩ => ⟨_, _, he, hw⟩
    · rcases h with h | ⟨b, off, hx, hc⟩
      · omega
      · injection hx with hx; subst hx
        exact (cloneS_row b off n c f w (by omega) (fun i hi => (hc i hi).1)).mono fun _ _ ⟨he, _, hw⟩ => ⟨_, _, he, hw⟩
/-- a slice of n ints f that can be read -/
def IR (w : World) (a : Option Addr) (n : Nat) (f : Nat → Int) : Prop := n = 0 ∨ ∃ b off, a = some ⟨b, off, none⟩ ∧ ∀ i, i < n → w.cell? ⟨b, off + i, none⟩ = some (.int .i64 (f i))
theorem cloneI_cp (a : Option Addr) (n c : Nat) (f : Nat → Int) (w : World) (hn : n ≤ 131072) (h0 : a = none → n = 0 ∧ c = 0) (h : IR w a n f) :
    Calls Try.prog 10 #[.slice a n c] w (Cp n w) := by
  cases a with
  | none => obtain ⟨rfl, rfl⟩ := h0 rfl; exact (cloneI_nil w).mono fun _ _ ⟨he, hw⟩ => ⟨_, _, he, hw ▸ Below.refl _ _⟩
  | some x =>
    by_cases hz : n = 0
    · subst hz; exact (cloneI_empty x c w).mono fun _ _ ⟨he, hw⟩ => ⟨_, _, he, hw⟩
    · rcases h with h | ⟨b, off, hx, hc⟩
      · omega
      · injection hx with hx; subst hx
        exact (cloneI_row b off n c f w (by omega) hc).mono fun _ _ ⟨he, _, hw⟩ => ⟨_, _, he, hw⟩
theorem IR.keep {w w' : World} {a : Option Addr} {n : Nat} {f : Nat → Int} (h : IR w a n f) (hb : Below w.heap.size w w') : IR w' a n f := by
  rcases h with h | ⟨b, off, hx, hc⟩
  · exact .inl h
  · exact .inr ⟨b, off, hx, fun i hi => cb hb (cell_lt (hc i hi)) (hc i hi)⟩

/-- A slice of integers that came in: nil, or a row of cap cells that hold zs. -/
def IsRow (k : IntKind) (w : World) (a : Option Addr) (len cap : Nat) (zs : List Int) : Prop :=
  (a = none ∧ len = 0 ∧ cap = 0 ∧ zs = []) ∨
  ∃ x, a = some x ∧ len ≤ cap ∧ cap ≤ maxLen ∧ zs.length = cap ∧ (∀ i, i < zs.length → w.cell? (x.add i) = some (.int k (zs.getD i 0))) ∧ ∀ n ∈ zs, (Lit.int k n).wf = true
/-- A slice of strings that came in: nil, or a row of cap cells that hold zs. -/
def IsStrs (w : World) (a : Option Addr) (len cap : Nat) (zs : List ByteArray) : Prop :=
  (a = none ∧ len = 0 ∧ cap = 0 ∧ zs = []) ∨
  ∃ x, a = some x ∧ len ≤ cap ∧ cap ≤ maxLen ∧ zs.length = cap ∧ (∀ i, i < zs.length → w.cell? (x.add i) = some (.string (zs.getD i ByteArray.empty))) ∧ ∀ s ∈ zs, s.size ≤ maxLen
theorem IsRow.ir {w : World} {a : Option Addr} {len cap : Nat} {zs : List Int} (h : IsRow .i64 w a len cap zs) : IR w a len (fun i => zs.getD i 0) ∧ len ≤ maxLen ∧ (a = none → len = 0 ∧ cap = 0) := by
  rcases h with ⟨rfl, rfl, rfl, rfl⟩ | ⟨x, rfl, hl, hm, hz, hc, _⟩
  · exact ⟨.inl rfl, Nat.zero_le _, fun _ => ⟨rfl, rfl⟩⟩
  · refine ⟨?_, by omega, fun h => by cases h⟩
    by_cases h0 : len = 0
    · exact .inl h0
    · obtain ⟨b, off, rfl, hc'⟩ := row_at (n := len) (F := fun i => .int .i64 (zs.getD i 0)) (fun i hi => hc i (by omega)) (by omega)
      exact .inr ⟨b, off, rfl, hc'⟩
theorem IsStrs.sr {w : World} {a : Option Addr} {len cap : Nat} {zs : List ByteArray} (h : IsStrs w a len cap zs) : SR w a len (fun i => zs.getD i ByteArray.empty) ∧ len ≤ maxLen ∧ (a = none → len = 0 ∧ cap = 0) := by
  rcases h with ⟨rfl, rfl, rfl, rfl⟩ | ⟨x, rfl, hl, hm, hz, hc, hs⟩
  · exact ⟨.inl rfl, Nat.zero_le _, fun _ => ⟨rfl, rfl⟩⟩
  · refine ⟨?_, by omega, fun h => by cases h⟩
    by_cases h0 : len = 0
    · exact .inl h0
    · obtain ⟨b, off, rfl, hc'⟩ := row_at (n := len) (F := fun i => .string (zs.getD i ByteArray.empty)) (fun i hi => hc i (by omega)) (by omega)
      refine .inr ⟨b, off, rfl, fun i hi => ⟨hc' i hi, ?_⟩⟩
      have := hs (zs.getD i ByteArray.empty) (by rw [List.getD_eq_getElem?_getD, List.getElem?_eq_getElem (by omega)]; exact List.getElem_mem _)
      unfold maxLen at this; exact this
end Go.Proofs.Ytljbaachfbcbbaa.vars
