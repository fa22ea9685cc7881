/-
  What Parser.reset leaves in a parser's cells. Conditions: the cells can be read and written.
-/
import Derived.Test.YtbfnkblcagoemaaPos
import Derived.BigRegion
namespace Go.Proofs.Ytbfnkblcagoemaa.resets
open Go.ChangeShapes Go.WideShapes Go.ChangeAt Go.RowKit Go.Proofs.Ytbfnkblcagoemaa.own
set_option linter.unusedVariables false
/-- stores into block p, one behind the other -/
def sets (p : Nat) : List (Nat × Value) → World → World
  | [], w => w
  | (k, v) :: L, w => sets p L (w.setCell ⟨p, k, none⟩ v)
def lookD : List (Nat × Value) → Nat → Value → Value
  | [], _, x => x
  | (j, v) :: L, k, x => if j = k then lookD L k v else lookD L k x
theorem sets_cell (p : Nat) : ∀ (L : List (Nat × Value)) (w : World) (k : Nat) (x : Value), w.cell? ⟨p, k, none⟩ = some x → (sets p L w).cell? ⟨p, k, none⟩ = some (lookD L k x)
  | [], _, _, _, h => h
  | (j, v) :: L, w, k, x, h => by
    unfold sets lookD
    by_cases e : j = k
    · subst e
      rw [if_pos rfl]
      exact sets_cell p L _ _ v (World.cell?_setCell_same _ _ _ h)
    · rw [if_neg e]
      exact sets_cell p L _ _ x ((World.cell?_setCell_other _ _ _ _ (by intro h2; exact e (by injection h2))).trans h)
theorem sets_below (p : Nat) : ∀ (L : List (Nat × Value)) (a w : World), Below p a w → Below p a (sets p L w)
  | [], _, _, h => h
  | (j, v) :: L, a, w, h => sets_below p L a _ (h.setCell (p := ⟨p, j, none⟩) (Nat.le_refl _) v)
theorem sets_size (p : Nat) : ∀ (L : List (Nat × Value)) (w : World), (sets p L w).heap.size = w.heap.size
  | [], _ => rfl
  | (j, v) :: L, w => by unfold sets; rw [sets_size p L]; simp
theorem below_drew {B : Nat} {a w : World} (h : Below B a w) : Below B a w.drew := h.trans ⟨rfl, rfl, rfl, Nat.le_refl _, fun _ _ => rfl⟩
def LST (p : Nat) (ah : Option Addr) (ch : Nat) : List (Nat × Value) := [(10, .int .u32 0), (11, .string ⟨#[]⟩), (18, .int .i64 0), (1, .slice none 0 0), (2, .int .u64 0), (12, .int .i64 0), (13, .int .i64 1), (14, .int .i64 1), (3, .int .i32 0), (4, .int .i64 0), (7, .nilIface), (8, .nilIface), (9, .bool false), (17, .int .u32 1), (24, .bool false), (29, .int .i64 0), (22, .int .i64 0), (26, .slice ah 0 ch), (25, .int .i64 0), (27, .slice none 0 0), (28, .bool false), (30, .int .i64 0), (31, .int .i64 0), (35, .slice none 0 0), (35, .slice none 0 0), (36, .pointer (some ⟨p, 35, none⟩)), (37, .slice none 0 0), (38, .slice none 0 0), (2087, .slice none 0 0)]
set_option maxHeartbeats 2000000 in
set_option maxRecDepth 100000 in
theorem reset0 (p : Nat) (w : World) (ah : Option Addr) (nh ch : Nat) (hnh : nh ≤ ch) (x10 : Value) (x11 : Value) (x18 : Value) (x1 : Value) (x2 : Value) (x12 : Value) (x13 : Value) (x14 : Value) (x3 : Value) (x4 : Value) (x7 : Value) (x8 : Value) (x9 : Value) (x17 : Value) (x24 : Value) (x29 : Value) (x22 : Value) (x25 : Value) (x27 : Value) (x28 : Value) (x30 : Value) (x31 : Value) (x35 : Value) (x36 : Value) (x37 : Value) (x38 : Value) (x2087 : Value)
    (c10 : w.cell? ⟨p, 10, none⟩ = some x10) (c11 : w.cell? ⟨p, 11, none⟩ = some x11) (c18 : w.cell? ⟨p, 18, none⟩ = some x18) (c1 : w.cell? ⟨p, 1, none⟩ = some x1) (c2 : w.cell? ⟨p, 2, none⟩ = some x2) (c12 : w.cell? ⟨p, 12, none⟩ = some x12) (c13 : w.cell? ⟨p, 13, none⟩ = some x13) (c14 : w.cell? ⟨p, 14, none⟩ = some x14) (c3 : w.cell? ⟨p, 3, none⟩ = some x3) (c4 : w.cell? ⟨p, 4, none⟩ = some x4) (c7 : w.cell? ⟨p, 7, none⟩ = some x7) (c8 : w.cell? ⟨p, 8, none⟩ = some x8) (c9 : w.cell? ⟨p, 9, none⟩ = some x9) (c17 : w.cell? ⟨p, 17, none⟩ = some x17) (c24 : w.cell? ⟨p, 24, none⟩ = some x24) (c29 : w.cell? ⟨p, 29, none⟩ = some x29) (c22 : w.cell? ⟨p, 22, none⟩ = some x22) (c25 : w.cell? ⟨p, 25, none⟩ = some x25) (c27 : w.cell? ⟨p, 27, none⟩ = some x27) (c28 : w.cell? ⟨p, 28, none⟩ = some x28) (c30 : w.cell? ⟨p, 30, none⟩ = some x30) (c31 : w.cell? ⟨p, 31, none⟩ = some x31) (c35 : w.cell? ⟨p, 35, none⟩ = some x35) (c36 : w.cell? ⟨p, 36, none⟩ = some x36) (c37 : w.cell? ⟨p, 37, none⟩ = some x37) (c38 : w.cell? ⟨p, 38, none⟩ = some x38) (c2087 : w.cell? ⟨p, 2087, none⟩ = some x2087)
    (c26 : w.cell? ⟨p, 26, none⟩ = some (.slice ah nh ch))
    (z10 : w.frozen? ⟨p, 10, none⟩ = false) (z11 : w.frozen? ⟨p, 11, none⟩ = false) (z18 : w.frozen? ⟨p, 18, none⟩ = false) (z1 : w.frozen? ⟨p, 1, none⟩ = false) (z2 : w.frozen? ⟨p, 2, none⟩ = false) (z12 : w.frozen? ⟨p, 12, none⟩ = false) (z13 : w.frozen? ⟨p, 13, none⟩ = false) (z14 : w.frozen? ⟨p, 14, none⟩ = false) (z3 : w.frozen? ⟨p, 3, none⟩ = false) (z4 : w.frozen? ⟨p, 4, none⟩ = false) (z7 : w.frozen? ⟨p, 7, none⟩ = false) (z8 : w.frozen? ⟨p, 8, none⟩ = false) (z9 : w.frozen? ⟨p, 9, none⟩ = false) (z17 : w.frozen? ⟨p, 17, none⟩ = false) (z24 : w.frozen? ⟨p, 24, none⟩ = false) (z29 : w.frozen? ⟨p, 29, none⟩ = false) (z22 : w.frozen? ⟨p, 22, none⟩ = false) (z25 : w.frozen? ⟨p, 25, none⟩ = false) (z27 : w.frozen? ⟨p, 27, none⟩ = false) (z28 : w.frozen? ⟨p, 28, none⟩ = false) (z30 : w.frozen? ⟨p, 30, none⟩ = false) (z31 : w.frozen? ⟨p, 31, none⟩ = false) (z35 : w.frozen? ⟨p, 35, none⟩ = false) (z36 : w.frozen? ⟨p, 36, none⟩ = false) (z37 : w.frozen? ⟨p, 37, none⟩ = false) (z38 : w.frozen? ⟨p, 38, none⟩ = false) (z2087 : w.frozen? ⟨p, 2087, none⟩ = false) (z26 : w.frozen? ⟨p, 26, none⟩ = false) :
    Calls Try.prog 38 #[.pointer (some ⟨p, 0, none⟩)] w fun e w' => e = .returned (.tuple #[]) ∧ w' = (sets p (LST p ah ch) w).drew := by
  go_enter Try.func38, Try.ntmps38
  go_wp2
  go_region
  go_wp2
  go_end0
  exact ⟨rfl, by simp only [LST, sets]⟩
/-- the cells of a parser that was reset -/
structure RD (p : Nat) (ah : Option Addr) (ch : Nat) (y6 y32 y33 y34 y19 y20 y21 y23 : Value) (w : World) : Prop where
  c10 : w.cell? ⟨p, 10, none⟩ = some (.int .u32 0)
  c11 : w.cell? ⟨p, 11, none⟩ = some (.string ⟨#[]⟩)
  c18 : w.cell? ⟨p, 18, none⟩ = some (.int .i64 0)
  c1 : w.cell? ⟨p, 1, none⟩ = some (.slice none 0 0)
  c2 : w.cell? ⟨p, 2, none⟩ = some (.int .u64 0)
  c12 : w.cell? ⟨p, 12, none⟩ = some (.int .i64 0)
  c13 : w.cell? ⟨p, 13, none⟩ = some (.int .i64 1)
  c14 : w.cell? ⟨p, 14, none⟩ = some (.int .i64 1)
  c3 : w.cell? ⟨p, 3, none⟩ = some (.int .i32 0)
  c4 : w.cell? ⟨p, 4, none⟩ = some (.int .i64 0)
  c7 : w.cell? ⟨p, 7, none⟩ = some (.nilIface)
  c8 : w.cell? ⟨p, 8, none⟩ = some (.nilIface)
  c9 : w.cell? ⟨p, 9, none⟩ = some (.bool false)
  c17 : w.cell? ⟨p, 17, none⟩ = some (.int .u32 1)
  c24 : w.cell? ⟨p, 24, none⟩ = some (.bool false)
  c29 : w.cell? ⟨p, 29, none⟩ = some (.int .i64 0)
  c22 : w.cell? ⟨p, 22, none⟩ = some (.int .i64 0)
  c26 : w.cell? ⟨p, 26, none⟩ = some (.slice ah 0 ch)
  c25 : w.cell? ⟨p, 25, none⟩ = some (.int .i64 0)
  c27 : w.cell? ⟨p, 27, none⟩ = some (.slice none 0 0)
  c28 : w.cell? ⟨p, 28, none⟩ = some (.bool false)
  c30 : w.cell? ⟨p, 30, none⟩ = some (.int .i64 0)
  c31 : w.cell? ⟨p, 31, none⟩ = some (.int .i64 0)
  c35 : w.cell? ⟨p, 35, none⟩ = some (.slice none 0 0)
  c36 : w.cell? ⟨p, 36, none⟩ = some (.pointer (some ⟨p, 35, none⟩))
  c37 : w.cell? ⟨p, 37, none⟩ = some (.slice none 0 0)
  c38 : w.cell? ⟨p, 38, none⟩ = some (.slice none 0 0)
  c2087 : w.cell? ⟨p, 2087, none⟩ = some (.slice none 0 0)
  c6 : w.cell? ⟨p, 6, none⟩ = some (y6)
  c32 : w.cell? ⟨p, 32, none⟩ = some (y32)
  c33 : w.cell? ⟨p, 33, none⟩ = some (y33)
  c34 : w.cell? ⟨p, 34, none⟩ = some (y34)
  c19 : w.cell? ⟨p, 19, none⟩ = some (y19)
  c20 : w.cell? ⟨p, 20, none⟩ = some (y20)
  c21 : w.cell? ⟨p, 21, none⟩ = some (y21)
  c23 : w.cell? ⟨p, 23, none⟩ = some (y23)
  sz : p < w.heap.size
theorem at_10 {p : Nat} {ah : Option Addr} {ch : Nat} {x : Value} {W : World} (h : W.cell? ⟨p, 10, none⟩ = some (lookD (LST p ah ch) 10 x)) : W.cell? ⟨p, 10, none⟩ = some (.int .u32 0) := by rw [h]; simp [LST, lookD]
theorem at_11 {p : Nat} {ah : Option Addr} {ch : Nat} {x : Value} {W : World} (h : W.cell? ⟨p, 11, none⟩ = some (lookD (LST p ah ch) 11 x)) : W.cell? ⟨p, 11, none⟩ = some (.string ⟨#[]⟩) := by rw [h]; simp [LST, lookD]
theorem at_18 {p : Nat} {ah : Option Addr} {ch : Nat} {x : Value} {W : World} (h : W.cell? ⟨p, 18, none⟩ = some (lookD (LST p ah ch) 18 x)) : W.cell? ⟨p, 18, none⟩ = some (.int .i64 0) := by rw [h]; simp [LST, lookD]
theorem at_1 {p : Nat} {ah : Option Addr} {ch : Nat} {x : Value} {W : World} (h : W.cell? ⟨p, 1, none⟩ = some (lookD (LST p ah ch) 1 x)) : W.cell? ⟨p, 1, none⟩ = some (.slice none 0 0) := by rw [h]; simp [LST, lookD]
theorem at_2 {p : Nat} {ah : Option Addr} {ch : Nat} {x : Value} {W : World} (h : W.cell? ⟨p, 2, none⟩ = some (lookD (LST p ah ch) 2 x)) : W.cell? ⟨p, 2, none⟩ = some (.int .u64 0) := by rw [h]; simp [LST, lookD]
theorem at_12 {p : Nat} {ah : Option Addr} {ch : Nat} {x : Value} {W : World} (h : W.cell? ⟨p, 12, none⟩ = some (lookD (LST p ah ch) 12 x)) : W.cell? ⟨p, 12, none⟩ = some (.int .i64 0) := by rw [h]; simp [LST, lookD]
theorem at_13 {p : Nat} {ah : Option Addr} {ch : Nat} {x : Value} {W : World} (h : W.cell? ⟨p, 13, none⟩ = some (lookD (LST p ah ch) 13 x)) : W.cell? ⟨p, 13, none⟩ = some (.int .i64 1) := by rw [h]; simp [LST, lookD]
theorem at_14 {p : Nat} {ah : Option Addr} {ch : Nat} {x : Value} {W : World} (h : W.cell? ⟨p, 14, none⟩ = some (lookD (LST p ah ch) 14 x)) : W.cell? ⟨p, 14, none⟩ = some (.int .i64 1) := by rw [h]; simp [LST, lookD]
theorem at_3 {p : Nat} {ah : Option Addr} {ch : Nat} {x : Value} {W : World} (h : W.cell? ⟨p, 3, none⟩ = some (lookD (LST p ah ch) 3 x)) : W.cell? ⟨p, 3, none⟩ = some (.int .i32 0) := by rw [h]; simp [LST, lookD]
theorem at_4 {p : Nat} {ah : Option Addr} {ch : Nat} {x : Value} {W : World} (h : W.cell? ⟨p, 4, none⟩ = some (lookD (LST p ah ch) 4 x)) : W.cell? ⟨p, 4, none⟩ = some (.int .i64 0) := by rw [h]; simp [LST, lookD]
theorem at_7 {p : Nat} {ah : Option Addr} {ch : Nat} {x : Value} {W : World} (h : W.cell? ⟨p, 7, none⟩ = some (lookD (LST p ah ch) 7 x)) : W.cell? ⟨p, 7, none⟩ = some (.nilIface) := by rw [h]; simp [LST, lookD]
theorem at_8 {p : Nat} {ah : Option Addr} {ch : Nat} {x : Value} {W : World} (h : W.cell? ⟨p, 8, none⟩ = some (lookD (LST p ah ch) 8 x)) : W.cell? ⟨p, 8, none⟩ = some (.nilIface) := by rw [h]; simp [LST, lookD]
theorem at_9 {p : Nat} {ah : Option Addr} {ch : Nat} {x : Value} {W : World} (h : W.cell? ⟨p, 9, none⟩ = some (lookD (LST p ah ch) 9 x)) : W.cell? ⟨p, 9, none⟩ = some (.bool false) := by rw [h]; simp [LST, lookD]
theorem at_17 {p : Nat} {ah : Option Addr} {ch : Nat} {x : Value} {W : World} (h : W.cell? ⟨p, 17, none⟩ = some (lookD (LST p ah ch) 17 x)) : W.cell? ⟨p, 17, none⟩ = some (.int .u32 1) := by rw [h]; simp [LST, lookD]
theorem at_24 {p : Nat} {ah : Option Addr} {ch : Nat} {x : Value} {W : World} (h : W.cell? ⟨p, 24, none⟩ = some (lookD (LST p ah ch) 24 x)) : W.cell? ⟨p, 24, none⟩ = some (.bool false) := by rw [h]; simp [LST, lookD]
theorem at_29 {p : Nat} {ah : Option Addr} {ch : Nat} {x : Value} {W : World} (h : W.cell? ⟨p, 29, none⟩ = some (lookD (LST p ah ch) 29 x)) : W.cell? ⟨p, 29, none⟩ = some (.int .i64 0) := by rw [h]; simp [LST, lookD]
theorem at_22 {p : Nat} {ah : Option Addr} {ch : Nat} {x : Value} {W : World} (h : W.cell? ⟨p, 22, none⟩ = some (lookD (LST p ah ch) 22 x)) : W.cell? ⟨p, 22, none⟩ = some (.int .i64 0) := by rw [h]; simp [LST, lookD]
theorem at_26 {p : Nat} {ah : Option Addr} {ch : Nat} {x : Value} {W : World} (h : W.cell? ⟨p, 26, none⟩ = some (lookD (LST p ah ch) 26 x)) : W.cell? ⟨p, 26, none⟩ = some (.slice ah 0 ch) := by rw [h]; simp [LST, lookD]
theorem at_25 {p : Nat} {ah : Option Addr} {ch : Nat} {x : Value} {W : World} (h : W.cell? ⟨p, 25, none⟩ = some (lookD (LST p ah ch) 25 x)) : W.cell? ⟨p, 25, none⟩ = some (.int .i64 0) := by rw [h]; simp [LST, lookD]
theorem at_27 {p : Nat} {ah : Option Addr} {ch : Nat} {x : Value} {W : World} (h : W.cell? ⟨p, 27, none⟩ = some (lookD (LST p ah ch) 27 x)) : W.cell? ⟨p, 27, none⟩ = some (.slice none 0 0) := by rw [h]; simp [LST, lookD]
theorem at_28 {p : Nat} {ah : Option Addr} {ch : Nat} {x : Value} {W : World} (h : W.cell? ⟨p, 28, none⟩ = some (lookD (LST p ah ch) 28 x)) : W.cell? ⟨p, 28, none⟩ = some (.bool false) := by rw [h]; simp [LST, lookD]
theorem at_30 {p : Nat} {ah : Option Addr} {ch : Nat} {x : Value} {W : World} (h : W.cell? ⟨p, 30, none⟩ = some (lookD (LST p ah ch) 30 x)) : W.cell? ⟨p, 30, none⟩ = some (.int .i64 0) := by rw [h]; simp [LST, lookD]
theorem at_31 {p : Nat} {ah : Option Addr} {ch : Nat} {x : Value} {W : World} (h : W.cell? ⟨p, 31, none⟩ = some (lookD (LST p ah ch) 31 x)) : W.cell? ⟨p, 31, none⟩ = some (.int .i64 0) := by rw [h]; simp [LST, lookD]
theorem at_35 {p : Nat} {ah : Option Addr} {ch : Nat} {x : Value} {W : World} (h : W.cell? ⟨p, 35, none⟩ = some (lookD (LST p ah ch) 35 x)) : W.cell? ⟨p, 35, none⟩ = some (.slice none 0 0) := by rw [h]; simp [LST, lookD]
theorem at_36 {p : Nat} {ah : Option Addr} {ch : Nat} {x : Value} {W : World} (h : W.cell? ⟨p, 36, none⟩ = some (lookD (LST p ah ch) 36 x)) : W.cell? ⟨p, 36, none⟩ = some (.pointer (some ⟨p, 35, none⟩)) := by rw [h]; simp [LST, lookD]
theorem at_37 {p : Nat} {ah : Option Addr} {ch : Nat} {x : Value} {W : World} (h : W.cell? ⟨p, 37, none⟩ = some (lookD (LST p ah ch) 37 x)) : W.cell? ⟨p, 37, none⟩ = some (.slice none 0 0) := by rw [h]; simp [LST, lookD]
theorem at_38 {p : Nat} {ah : Option Addr} {ch : Nat} {x : Value} {W : World} (h : W.cell? ⟨p, 38, none⟩ = some (lookD (LST p ah ch) 38 x)) : W.cell? ⟨p, 38, none⟩ = some (.slice none 0 0) := by rw [h]; simp [LST, lookD]
theorem at_2087 {p : Nat} {ah : Option Addr} {ch : Nat} {x : Value} {W : World} (h : W.cell? ⟨p, 2087, none⟩ = some (lookD (LST p ah ch) 2087 x)) : W.cell? ⟨p, 2087, none⟩ = some (.slice none 0 0) := by rw [h]; simp [LST, lookD]
theorem at_6 {p : Nat} {ah : Option Addr} {ch : Nat} {x : Value} {W : World} (h : W.cell? ⟨p, 6, none⟩ = some (lookD (LST p ah ch) 6 x)) : W.cell? ⟨p, 6, none⟩ = some (x) := by rw [h]; simp [LST, lookD]
theorem at_32 {p : Nat} {ah : Option Addr} {ch : Nat} {x : Value} {W : World} (h : W.cell? ⟨p, 32, none⟩ = some (lookD (LST p ah ch) 32 x)) : W.cell? ⟨p, 32, none⟩ = some (x) := by rw [h]; simp [LST, lookD]
theorem at_33 {p : Nat} {ah : Option Addr} {ch : Nat} {x : Value} {W : World} (h : W.cell? ⟨p, 33, none⟩ = some (lookD (LST p ah ch) 33 x)) : W.cell? ⟨p, 33, none⟩ = some (x) := by rw [h]; simp [LST, lookD]
theorem at_34 {p : Nat} {ah : Option Addr} {ch : Nat} {x : Value} {W : World} (h : W.cell? ⟨p, 34, none⟩ = some (lookD (LST p ah ch) 34 x)) : W.cell? ⟨p, 34, none⟩ = some (x) := by rw [h]; simp [LST, lookD]
theorem at_19 {p : Nat} {ah : Option Addr} {ch : Nat} {x : Value} {W : World} (h : W.cell? ⟨p, 19, none⟩ = some (lookD (LST p ah ch) 19 x)) : W.cell? ⟨p, 19, none⟩ = some (x) := by rw [h]; simp [LST, lookD]
theorem at_20 {p : Nat} {ah : Option Addr} {ch : Nat} {x : Value} {W : World} (h : W.cell? ⟨p, 20, none⟩ = some (lookD (LST p ah ch) 20 x)) : W.cell? ⟨p, 20, none⟩ = some (x) := by rw [h]; simp [LST, lookD]
theorem at_21 {p : Nat} {ah : Option Addr} {ch : Nat} {x : Value} {W : World} (h : W.cell? ⟨p, 21, none⟩ = some (lookD (LST p ah ch) 21 x)) : W.cell? ⟨p, 21, none⟩ = some (x) := by rw [h]; simp [LST, lookD]
theorem at_23 {p : Nat} {ah : Option Addr} {ch : Nat} {x : Value} {W : World} (h : W.cell? ⟨p, 23, none⟩ = some (lookD (LST p ah ch) 23 x)) : W.cell? ⟨p, 23, none⟩ = some (x) := by rw [h]; simp [LST, lookD]
set_option maxRecDepth 100000 in
theorem reset_any (p : Nat) (w : World) (ah : Option Addr) (nh ch : Nat) (hnh : nh ≤ ch) (x10 : Value) (x11 : Value) (x18 : Value) (x1 : Value) (x2 : Value) (x12 : Value) (x13 : Value) (x14 : Value) (x3 : Value) (x4 : Value) (x7 : Value) (x8 : Value) (x9 : Value) (x17 : Value) (x24 : Value) (x29 : Value) (x22 : Value) (x25 : Value) (x27 : Value) (x28 : Value) (x30 : Value) (x31 : Value) (x35 : Value) (x36 : Value) (x37 : Value) (x38 : Value) (x2087 : Value) (y6 : Value) (y32 : Value) (y33 : Value) (y34 : Value) (y19 : Value) (y20 : Value) (y21 : Value) (y23 : Value)
    (c10 : w.cell? ⟨p, 10, none⟩ = some x10) (c11 : w.cell? ⟨p, 11, none⟩ = some x11) (c18 : w.cell? ⟨p, 18, none⟩ = some x18) (c1 : w.cell? ⟨p, 1, none⟩ = some x1) (c2 : w.cell? ⟨p, 2, none⟩ = some x2) (c12 : w.cell? ⟨p, 12, none⟩ = some x12) (c13 : w.cell? ⟨p, 13, none⟩ = some x13) (c14 : w.cell? ⟨p, 14, none⟩ = some x14) (c3 : w.cell? ⟨p, 3, none⟩ = some x3) (c4 : w.cell? ⟨p, 4, none⟩ = some x4) (c7 : w.cell? ⟨p, 7, none⟩ = some x7) (c8 : w.cell? ⟨p, 8, none⟩ = some x8) (c9 : w.cell? ⟨p, 9, none⟩ = some x9) (c17 : w.cell? ⟨p, 17, none⟩ = some x17) (c24 : w.cell? ⟨p, 24, none⟩ = some x24) (c29 : w.cell? ⟨p, 29, none⟩ = some x29) (c22 : w.cell? ⟨p, 22, none⟩ = some x22) (c25 : w.cell? ⟨p, 25, none⟩ = some x25) (c27 : w.cell? ⟨p, 27, none⟩ = some x27) (c28 : w.cell? ⟨p, 28, none⟩ = some x28) (c30 : w.cell? ⟨p, 30, none⟩ = some x30) (c31 : w.cell? ⟨p, 31, none⟩ = some x31) (c35 : w.cell? ⟨p, 35, none⟩ = some x35) (c36 : w.cell? ⟨p, 36, none⟩ = some x36) (c37 : w.cell? ⟨p, 37, none⟩ = some x37) (c38 : w.cell? ⟨p, 38, none⟩ = some x38) (c2087 : w.cell? ⟨p, 2087, none⟩ = some x2087)
    (c26 : w.cell? ⟨p, 26, none⟩ = some (.slice ah nh ch))
    (z10 : w.frozen? ⟨p, 10, none⟩ = false) (z11 : w.frozen? ⟨p, 11, none⟩ = false) (z18 : w.frozen? ⟨p, 18, none⟩ = false) (z1 : w.frozen? ⟨p, 1, none⟩ = false) (z2 : w.frozen? ⟨p, 2, none⟩ = false) (z12 : w.frozen? ⟨p, 12, none⟩ = false) (z13 : w.frozen? ⟨p, 13, none⟩ = false) (z14 : w.frozen? ⟨p, 14, none⟩ = false) (z3 : w.frozen? ⟨p, 3, none⟩ = false) (z4 : w.frozen? ⟨p, 4, none⟩ = false) (z7 : w.frozen? ⟨p, 7, none⟩ = false) (z8 : w.frozen? ⟨p, 8, none⟩ = false) (z9 : w.frozen? ⟨p, 9, none⟩ = false) (z17 : w.frozen? ⟨p, 17, none⟩ = false) (z24 : w.frozen? ⟨p, 24, none⟩ = false) (z29 : w.frozen? ⟨p, 29, none⟩ = false) (z22 : w.frozen? ⟨p, 22, none⟩ = false) (z25 : w.frozen? ⟨p, 25, none⟩ = false) (z27 : w.frozen? ⟨p, 27, none⟩ = false) (z28 : w.frozen? ⟨p, 28, none⟩ = false) (z30 : w.frozen? ⟨p, 30, none⟩ = false) (z31 : w.frozen? ⟨p, 31, none⟩ = false) (z35 : w.frozen? ⟨p, 35, none⟩ = false) (z36 : w.frozen? ⟨p, 36, none⟩ = false) (z37 : w.frozen? ⟨p, 37, none⟩ = false) (z38 : w.frozen? ⟨p, 38, none⟩ = false) (z2087 : w.frozen? ⟨p, 2087, none⟩ = false) (z26 : w.frozen? ⟨p, 26, none⟩ = false)
    (d6 : w.cell? ⟨p, 6, none⟩ = some y6) (d32 : w.cell? ⟨p, 32, none⟩ = some y32) (d33 : w.cell? ⟨p, 33, none⟩ = some y33) (d34 : w.cell? ⟨p, 34, none⟩ = some y34) (d19 : w.cell? ⟨p, 19, none⟩ = some y19) (d20 : w.cell? ⟨p, 20, none⟩ = some y20) (d21 : w.cell? ⟨p, 21, none⟩ = some y21) (d23 : w.cell? ⟨p, 23, none⟩ = some y23) :
    Calls Try.prog 38 #[.pointer (some ⟨p, 0, none⟩)] w fun e w' => e = .returned (.tuple #[]) ∧ RD p ah ch y6 y32 y33 y34 y19 y20 y21 y23 w' ∧ Below p w w' := by
  refine (reset0 p w ah nh ch hnh x10 x11 x18 x1 x2 x12 x13 x14 x3 x4 x7 x8 x9 x17 x24 x29 x22 x25 x27 x28 x30 x31 x35 x36 x37 x38 x2087 c10 c11 c18 c1 c2 c12 c13 c14 c3 c4 c7 c8 c9 c17 c24 c29 c22 c25 c27 c28 c30 c31 c35 c36 c37 c38 c2087 c26 z10 z11 z18 z1 z2 z12 z13 z14 z3 z4 z7 z8 z9 z17 z24 z29 z22 z25 z27 z28 z30 z31 z35 z36 z37 z38 z2087 z26).mono ?_
  rintro e w' ⟨rfl, rfl⟩
  have S := fun k x h => cd (sets_cell p (LST p ah ch) w k x h)
  have hb := below_drew (sets_below p (LST p ah ch) w w (Below.refl _ _))
  have hz : p < (sets p (LST p ah ch) w).drew.heap.size := by
    have h1 := sets_size p (LST p ah ch) w
    have h2 := cell_lt c1
    generalize sets p (LST p ah ch) w = X at h1
    show p < X.heap.size
    simp at h2
    omega
  generalize (sets p (LST p ah ch) w).drew = X at S hb hz
  exact ⟨rfl, ⟨at_10 (S _ _ c10), at_11 (S _ _ c11), at_18 (S _ _ c18), at_1 (S _ _ c1), at_2 (S _ _ c2), at_12 (S _ _ c12), at_13 (S _ _ c13), at_14 (S _ _ c14), at_3 (S _ _ c3), at_4 (S _ _ c4), at_7 (S _ _ c7), at_8 (S _ _ c8), at_9 (S _ _ c9), at_17 (S _ _ c17), at_24 (S _ _ c24), at_29 (S _ _ c29), at_22 (S _ _ c22), at_26 (S _ _ c26), at_25 (S _ _ c25), at_27 (S _ _ c27), at_28 (S _ _ c28), at_30 (S _ _ c30), at_31 (S _ _ c31), at_35 (S _ _ c35), at_36 (S _ _ c36), at_37 (S _ _ c37), at_38 (S _ _ c38), at_2087 (S _ _ c2087), at_6 (S _ _ d6), at_32 (S _ _ d32), at_33 (S _ _ d33), at_34 (S _ _ d34), at_19 (S _ _ d19), at_20 (S _ _ d20), at_21 (S _ _ d21), at_23 (S _ _ d23), hz⟩, hb⟩
end Go.Proofs.Ytbfnkblcagoemaa.resets
