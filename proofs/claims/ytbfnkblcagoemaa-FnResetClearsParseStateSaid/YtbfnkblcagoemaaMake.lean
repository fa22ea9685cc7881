/-
  What the makers of a dirty parser do (ZZnewParserDirty, ZZsetErr, ZZsetReadErr): the fields that reset leaves alone are as handed in. Conditions: as each contract states.
-/
import Derived.Test.YtbfnkblcagoemaaCopy
import Derived.Test.YtbfnkblcagoemaaReset
namespace Go.Proofs.Ytbfnkblcagoemaa.dirty
open Go.ChangeShapes Go.WideShapes Go.ChangeAt Go.RowKit Go.Proofs.Ytbfnkblcagoemaa.own Go.Proofs.Ytbfnkblcagoemaa.posn Go.Proofs.Ytbfnkblcagoemaa.resets
set_option linter.unusedVariables false
/-- the parts of the new parser -/
def PV (d : DS) (hd cm lt wb : SL) (kc : Bool) (la rm : Int) (st : SL) : List (Nat × Value) :=
  [(10, .int .u32 d.tok), (11, .string d.val), (17, .int .i64 d.eql), (1, .slice d.bs.a d.bs.n d.bs.c), (2, .int .u64 d.bsp), (12, .int .i64 d.offs), (13, .int .i64 d.line), (14, .int .i64 d.col), (3, .int .i32 d.r), (4, .int .i64 d.wd), (9, .bool d.readEOF),
   (16, .int .u32 d.quote), (23, .bool d.forbid), (28, .int .i64 d.openN), (21, .int .i64 d.recov), (25, .slice hd.a hd.n hd.c), (24, .int .i64 d.buried), (26, .slice d.hs.a d.hs.n d.hs.c), (27, .bool d.parsing), (29, .int .i64 d.oB), (30, .int .i64 d.oBD),
   (34, .slice cm.a cm.n cm.c), (36, .slice lt.a lt.n lt.c), (37, .slice wb.a wb.n wb.c), (40, .slice d.lit.a d.lit.n d.lit.c), (6, .bool d.spaced), (31, .int .i64 d.lastB), (32, .int .i64 d.rxO), (33, .bool d.rxF), (18, .bool kc), (19, .int .i64 la), (22, .int .i64 rm), (20, .slice st.a st.n st.c)]
/-- where field k of a parser lies -/
def place (k : Nat) : Nat := if k ≤ 15 then k else if k = 40 then 2087 else k + 1
def asets : List (Nat × Value) → Array Value → Array Value
  | [], A => A
  | (k, v) :: L, A => asets L (A.setIfInBounds (place k) v)
set_option maxRecDepth 100000 in
theorem builtPV (d : DS) (hd cm lt wb : SL) (kc : Bool) (la rm : Int) (st : SL) : Try.prog.built 81 (PV d hd cm lt wb kc la rm st) = some (asets (PV d hd cm lt wb kc la rm st) Z) := by kernel_rfl
theorem asets_size : ∀ (L : List (Nat × Value)) (A : Array Value), (asets L A).size = A.size
  | [], _ => rfl
  | (k, v) :: L, A => by unfold asets; rw [asets_size L]; simp
def lookA : List (Nat × Value) → Nat → Option Value → Option Value
  | [], _, x => x
  | (k, v) :: L, j, x => lookA L j (if place k = j then some v else x)
theorem asets_get : ∀ (L : List (Nat × Value)) (A : Array Value) (j : Nat), j < A.size → (asets L A)[j]? = lookA L j A[j]?
  | [], _, _, _ => rfl
  | (k, v) :: L, A, j, h => by
    unfold asets lookA
    rw [asets_get L _ j (by simpa using h), Array.getElem?_setIfInBounds]
    by_cases e : place k = j
    · rw [if_pos e, if_pos e, if_pos (by omega)]
    · rw [if_neg e, if_neg e]
/-- block g holds a parser of which these fields are known -/
structure Raw (g : Nat) (hd : SL) (sp : Bool) (lb rx : Int) (rf kc : Bool) (la rm : Int) (st : SL) (w : World) : Prop where
  row : ∃ A : Array Value, w.heap[g]? = some (.cells A 81 (0, 0)) ∧ A.size = 2088 ∧ A[26]? = some (.slice hd.a hd.n hd.c) ∧ A[6]? = some (.bool sp) ∧ A[32]? = some (.int .i64 lb) ∧ A[33]? = some (.int .i64 rx) ∧ A[34]? = some (.bool rf) ∧
    A[19]? = some (.bool kc) ∧ A[20]? = some (.int .i64 la) ∧ A[21]? = some (.slice st.a st.n st.c) ∧ A[23]? = some (.int .i64 rm)
theorem i78 : (Try.prog.info? 118).map (fun i => (i.zero, i.size, i.bytes)) = some (some (.agg #[.slice none 0 0, .nilIface]), 2, 40) := by kernel_rfl
set_option maxHeartbeats 4000000 in
set_option maxRecDepth 100000 in
theorem dirty0 (d : DS) (hd cm lt : SL) (kc : Bool) (la rm : Int) (st : SL) (n : Nat) (w : World) (hn : n ≤ 4096) (A : SL → Array Value) (hb : ∀ wb, Try.prog.built 81 (PV d hd cm lt wb kc la rm st) = some (A wb)) :
    Calls Try.prog 35 #[.int .u32 d.tok, .string d.val, .int .i64 d.eql, .slice d.bs.a d.bs.n d.bs.c, .int .u64 d.bsp, .int .i64 d.offs, .int .i64 d.line, .int .i64 d.col, .int .i32 d.r, .int .i64 d.wd, .bool d.readEOF, .int .u32 d.quote, .bool d.forbid, .int .i64 d.openN, .int .i64 d.recov,
      .slice hd.a hd.n hd.c, .int .i64 d.buried, .slice d.hs.a d.hs.n d.hs.c, .bool d.parsing, .int .i64 d.oB, .int .i64 d.oBD, .slice cm.a cm.n cm.c, .slice lt.a lt.n lt.c, .int .i64 n, .slice d.lit.a d.lit.n d.lit.c, .bool d.spaced, .int .i64 d.lastB, .int .i64 d.rxO, .bool d.rxF, .bool kc, .int .i64 la, .int .i64 rm, .slice st.a st.n st.c] w
      fun e w' => ∃ g wb, e = .returned (.pointer (some ⟨g, 0, none⟩)) ∧ w'.heap[g]? = some (.cells (A wb) 81 (0, 0)) ∧ w.heap.size ≤ g ∧ Below w.heap.size w w' := by
  obtain ⟨i0, hi, hz0, hz1, hz2⟩ := info_parts i78
  have HB := Lib.hid hb
  clear hb
  go_enter Try.func35, Try.ntmps35
  go_wp2_with (at_make; refine wpList_make_full _ rfl _ _ 78 rfl w.heap.size 118 i0 _ 2 Try.underlying78 hi hz0 hz1 .i64 .i64 _ _ n rfl rfl ?c0 ?c1 ?c2 ?c3 ?c4 ?_)
  case c0 => rfl
  case c1 => rfl
  case c2 => rw [hz2]; omega
  case c3 => unfold maxLen; omega
  case c4 => exact Nat.le_refl _
  intro w1 hown hgrow
  have hb1 := Lib.hid (show Below w.heap.size w w1 from (Below.refl _ _).grown hgrow (Nat.le_refl _) (fun k h => by cases h))
  clear hown hgrow
  go_wp2_with (refine wpList_build_at rfl 81 _ rfl (PV d hd cm lt ⟨some ⟨w.heap.size, 0, none⟩, n, n⟩ kc la rm st) (by simp [go_sem, PV]) _ (HB.out _) ?_)
  go_ret
  exact ⟨w1.heap.size, _, rfl, heap_alloc_new _ _, hb1.out.size, hb1.out.alloc hb1.out.size _⟩
set_option maxRecDepth 100000 in
theorem dirty_any (d : DS) (hd cm lt : SL) (kc : Bool) (la rm : Int) (st : SL) (n : Nat) (w : World) (hn : n ≤ 4096) :
    Calls Try.prog 35 #[.int .u32 d.tok, .string d.val, .int .i64 d.eql, .slice d.bs.a d.bs.n d.bs.c, .int .u64 d.bsp, .int .i64 d.offs, .int .i64 d.line, .int .i64 d.col, .int .i32 d.r, .int .i64 d.wd, .bool d.readEOF, .int .u32 d.quote, .bool d.forbid, .int .i64 d.openN, .int .i64 d.recov,
      .slice hd.a hd.n hd.c, .int .i64 d.buried, .slice d.hs.a d.hs.n d.hs.c, .bool d.parsing, .int .i64 d.oB, .int .i64 d.oBD, .slice cm.a cm.n cm.c, .slice lt.a lt.n lt.c, .int .i64 n, .slice d.lit.a d.lit.n d.lit.c, .bool d.spaced, .int .i64 d.lastB, .int .i64 d.rxO, .bool d.rxF, .bool kc, .int .i64 la, .int .i64 rm, .slice st.a st.n st.c] w
      fun e w' => ∃ g, e = .returned (.pointer (some ⟨g, 0, none⟩)) ∧ Raw g hd d.spaced d.lastB d.rxO d.rxF kc la rm st w' ∧ w.heap.size ≤ g ∧ Below w.heap.size w w' := by
  refine (dirty0 d hd cm lt kc la rm st n w hn (fun wb => asets (PV d hd cm lt wb kc la rm st) Z) (fun wb => builtPV d hd cm lt wb kc la rm st)).mono ?_
  rintro e w' ⟨g, wb, rfl, hrow, hg, hb⟩
  refine ⟨g, rfl, ⟨_, hrow, by rw [asets_size, Zsize], ?_, ?_, ?_, ?_, ?_, ?_, ?_, ?_, ?_⟩, hg, hb⟩
  all_goals
    rw [asets_get _ _ _ (by rw [Zsize]; omega)]
    simp [PV, lookA, place]
theorem Raw.below {g : Nat} {hd : SL} {sp : Bool} {lb rx : Int} {rf kc : Bool} {la rm : Int} {st : SL} {w w' : World} (h : Raw g hd sp lb rx rf kc la rm st w) {B : Nat} (hb : Below B w w') (hg : g < B) : Raw g hd sp lb rx rf kc la rm st w' := by
  obtain ⟨A, h1, h2⟩ := h.row
  exact ⟨A, (hb.block g hg).trans h1, h2⟩
theorem Raw.lt {g : Nat} {hd : SL} {sp : Bool} {lb rx : Int} {rf kc : Bool} {la rm : Int} {st : SL} {w : World} (h : Raw g hd sp lb rx rf kc la rm st w) : g < w.heap.size := by
  obtain ⟨A, h1, h2⟩ := h.row
  exact (Array.getElem?_eq_some_iff.1 h1).1
/-- a store into cell 7 or 8 (an error) leaves the known fields -/
theorem Raw.err {g : Nat} {hd : SL} {sp : Bool} {lb rx : Int} {rf kc : Bool} {la rm : Int} {st : SL} {w : World} (h : Raw g hd sp lb rx rf kc la rm st w) (k : Nat) (hk : k = 7 ∨ k = 8) (v : Value) : Raw g hd sp lb rx rf kc la rm st (w.setCell ⟨g, k, none⟩ v) := by
  obtain ⟨A, h1, h2, h26, h6, h32, h33, h34, h19, h20, h21, h23⟩ := h.row
  have S : ∀ j, j ≠ k → (A.setIfInBounds k v)[j]? = A[j]? := fun j hj => by rw [Array.getElem?_setIfInBounds, if_neg (by omega)]
  exact ⟨A.setIfInBounds k v, heap_setCell_same w g k A 81 v h1, by simpa using h2, by rw [S 26 (by omega)]; exact h26, by rw [S 6 (by omega)]; exact h6, by rw [S 32 (by omega)]; exact h32, by rw [S 33 (by omega)]; exact h33,
    by rw [S 34 (by omega)]; exact h34, by rw [S 19 (by omega)]; exact h19, by rw [S 20 (by omega)]; exact h20, by rw [S 21 (by omega)]; exact h21, by rw [S 23 (by omega)]; exact h23⟩
theorem Raw.at {g : Nat} {hd : SL} {sp : Bool} {lb rx : Int} {rf kc : Bool} {la rm : Int} {st : SL} {w : World} (h : Raw g hd sp lb rx rf kc la rm st w) (k : Nat) (hk : k < 2088) : ∃ v, w.cell? ⟨g, k, none⟩ = some v ∧ w.frozen? ⟨g, k, none⟩ = false := by
  obtain ⟨A, h1, h2, _⟩ := h.row
  exact ⟨A[k], by rw [cell_of_row w g k A 81 _ h1]; simp [h2, hk], frozen_of_row w g k A 81 h1⟩
theorem setErr_any {g : Nat} {hd : SL} {sp : Bool} {lb rx : Int} {rf kc : Bool} {la rm : Int} {st : SL} {w : World} (h : Raw g hd sp lb rx rf kc la rm st w) :
    Calls Try.prog 36 #[.pointer (some ⟨g, 0, none⟩)] w fun e w' => e = .returned (.tuple #[]) ∧ Raw g hd sp lb rx rf kc la rm st w' ∧ Below g w w' := by
  obtain ⟨v, hc, hz⟩ := h.at 7 (by omega)
  have H := Lib.hid h
  clear h
  go_enter Try.func36, Try.ntmps36
  go_wp2
  go_end0
  exact ⟨rfl, H.out.err 7 (.inl rfl) _, (Below.refl _ _).setCell (p := ⟨g, 7, none⟩) (Nat.le_refl _) _⟩
theorem setReadErr_any {g : Nat} {hd : SL} {sp : Bool} {lb rx : Int} {rf kc : Bool} {la rm : Int} {st : SL} {w : World} (h : Raw g hd sp lb rx rf kc la rm st w) :
    Calls Try.prog 37 #[.pointer (some ⟨g, 0, none⟩)] w fun e w' => e = .returned (.tuple #[]) ∧ Raw g hd sp lb rx rf kc la rm st w' ∧ Below g w w' := by
  obtain ⟨v, hc, hz⟩ := h.at 8 (by omega)
  have H := Lib.hid h
  clear h
  go_enter Try.func37, Try.ntmps37
  go_wp2
  go_end0
  exact ⟨rfl, H.out.err 8 (.inr rfl) _, (Below.refl _ _).setCell (p := ⟨g, 8, none⟩) (Nat.le_refl _) _⟩
end Go.Proofs.Ytbfnkblcagoemaa.dirty
