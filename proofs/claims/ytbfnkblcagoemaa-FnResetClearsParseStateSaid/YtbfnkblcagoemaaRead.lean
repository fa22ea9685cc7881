/-
  What ZZreset, Incomplete and ZZnextPos do on a parser whose kept fields are known. No conditions.
-/
import Derived.Test.YtbfnkblcagoemaaMake
import Derived.Test.YtbfnkblcagoemaaNext
import Derived.Test.YtbfnkblcagoemaaState
namespace Go.Proofs.Ytbfnkblcagoemaa.dirty
open Go.ChangeShapes Go.WideShapes Go.ChangeAt Go.RowKit Go.Proofs.Ytbfnkblcagoemaa.own Go.Proofs.Ytbfnkblcagoemaa.posn Go.Proofs.Ytbfnkblcagoemaa.resets
set_option linter.unusedVariables false
theorem Raw.reset {g : Nat} {hd : SL} {sp : Bool} {lb rx : Int} {rf kc : Bool} {la rm : Int} {st : SL} {w : World} (h : Raw g hd sp lb rx rf kc la rm st w) (hh : hd.n ≤ hd.c) :
    Calls Try.prog 38 #[.pointer (some ⟨g, 0, none⟩)] w fun e w' => e = .returned (.tuple #[]) ∧ RD g hd.a hd.c (.bool sp) (.int .i64 lb) (.int .i64 rx) (.bool rf) (.bool kc) (.int .i64 la) (.slice st.a st.n st.c) (.int .i64 rm) w' ∧ Below g w w' := by
  obtain ⟨x10, c10, z10⟩ := h.at 10 (by omega)
  obtain ⟨x11, c11, z11⟩ := h.at 11 (by omega)
  obtain ⟨x18, c18, z18⟩ := h.at 18 (by omega)
  obtain ⟨x1, c1, z1⟩ := h.at 1 (by omega)
  obtain ⟨x2, c2, z2⟩ := h.at 2 (by omega)
  obtain ⟨x12, c12, z12⟩ := h.at 12 (by omega)
  obtain ⟨x13, c13, z13⟩ := h.at 13 (by omega)
  obtain ⟨x14, c14, z14⟩ := h.at 14 (by omega)
  obtain ⟨x3, c3, z3⟩ := h.at 3 (by omega)
  obtain ⟨x4, c4, z4⟩ := h.at 4 (by omega)
  obtain ⟨x7, c7, z7⟩ := h.at 7 (by omega)
  obtain ⟨x8, c8, z8⟩ := h.at 8 (by omega)
  obtain ⟨x9, c9, z9⟩ := h.at 9 (by omega)
  obtain ⟨x17, c17, z17⟩ := h.at 17 (by omega)
  obtain ⟨x24, c24, z24⟩ := h.at 24 (by omega)
  obtain ⟨x29, c29, z29⟩ := h.at 29 (by omega)
  obtain ⟨x22, c22, z22⟩ := h.at 22 (by omega)
  obtain ⟨x25, c25, z25⟩ := h.at 25 (by omega)
  obtain ⟨x27, c27, z27⟩ := h.at 27 (by omega)
  obtain ⟨x28, c28, z28⟩ := h.at 28 (by omega)
  obtain ⟨x30, c30, z30⟩ := h.at 30 (by omega)
  obtain ⟨x31, c31, z31⟩ := h.at 31 (by omega)
  obtain ⟨x35, c35, z35⟩ := h.at 35 (by omega)
  obtain ⟨x36, c36, z36⟩ := h.at 36 (by omega)
  obtain ⟨x37, c37, z37⟩ := h.at 37 (by omega)
  obtain ⟨x38, c38, z38⟩ := h.at 38 (by omega)
  obtain ⟨x2087, c2087, z2087⟩ := h.at 2087 (by omega)
  obtain ⟨x26, _, z26⟩ := h.at 26 (by omega)
  obtain ⟨A, h1, h2, h26, h6, h32, h33, h34, h19, h20, h21, h23⟩ := h.row
  have S := fun k => cell_of_row w g k A 81 _ h1
  exact reset_any g w hd.a hd.n hd.c hh x10 x11 x18 x1 x2 x12 x13 x14 x3 x4 x7 x8 x9 x17 x24 x29 x22 x25 x27 x28 x30 x31 x35 x36 x37 x38 x2087 _ _ _ _ _ _ _ _ c10 c11 c18 c1 c2 c12 c13 c14 c3 c4 c7 c8 c9 c17 c24 c29 c22 c25 c27 c28 c30 c31 c35 c36 c37 c38 c2087 ((S 26).trans h26) z10 z11 z18 z1 z2 z12 z13 z14 z3 z4 z7 z8 z9 z17 z24 z29 z22 z25 z27 z28 z30 z31 z35 z36 z37 z38 z2087 z26 ((S 6).trans h6) ((S 32).trans h32) ((S 33).trans h33) ((S 34).trans h34) ((S 19).trans h19) ((S 20).trans h20) ((S 21).trans h21) ((S 23).trans h23)
theorem zreset_any {g : Nat} {hd : SL} {sp : Bool} {lb rx : Int} {rf kc : Bool} {la rm : Int} {st : SL} {w : World} (h : Raw g hd sp lb rx rf kc la rm st w) (hh : hd.n ≤ hd.c) :
    Calls Try.prog 14 #[.pointer (some ⟨g, 0, none⟩)] w fun e w' => e = .returned (.tuple #[]) ∧ RD g hd.a hd.c (.bool sp) (.int .i64 lb) (.int .i64 rx) (.bool rf) (.bool kc) (.int .i64 la) (.slice st.a st.n st.c) (.int .i64 rm) w' ∧ Below g w w' := by
  have H := Lib.hid h
  clear h
  go_enter Try.func14, Try.ntmps14
  go_wp2_with fail
  refine (H.out.reset hh).mono ?_
  rintro e w1 ⟨rfl, hr, hb⟩
  have HR := Lib.hid hr
  have HB := Lib.hid hb
  clear hr hb
  go_wp2_with fail
  go_end0
  exact ⟨rfl, HR.out, HB.out⟩
theorem incomplete_any {g : Nat} {ah : Option Addr} {ch : Nat} {y6 y32 y33 y34 y19 y20 y21 y23 : Value} {w : World} (h : RD g ah ch y6 y32 y33 y34 y19 y20 y21 y23 w) :
    Calls Try.prog 16 #[.pointer (some ⟨g, 0, none⟩)] w fun e w' => e = .returned (.bool false) ∧ w = w' := by
  have c29 := h.c29
  have c2087 := h.c2087
  clear h
  go_enter Try.func16, Try.ntmps16
  go_wp2
  go_ret
  exact ⟨rfl, rfl⟩
theorem RD.at0 {g : Nat} {ah : Option Addr} {ch : Nat} {y6 y32 y33 y34 y19 y20 y21 y23 : Value} {w : World} (h : RD g ah ch y6 y32 y33 y34 y19 y20 y21 y23 w) : At g w 0 1 1 0 0 w :=
  ⟨h.c12, h.c13, h.c14, h.c2, h.c4, Below.refl _ _, h.sz⟩
theorem next_any {g : Nat} {ah : Option Addr} {ch : Nat} {y6 y32 y33 y34 y19 y20 y21 y23 : Value} {w : World} (h : RD g ah ch y6 y32 y33 y34 y19 y20 y21 y23 w) :
    Calls Try.prog 17 #[.pointer (some ⟨g, 0, none⟩)] w fun e w' => e = .returned (.agg #[.int .u32 0, .int .u32 16385]) ∧ Below w.heap.size w w' :=
  nextp.znext_any g 0 1 1 0 0 w w (RD.at0 h) ⟨by omega, by omega, by omega, by omega, by omega, by omega, by omega, by omega, by omega⟩ (by omega) (by omega)
end Go.Proofs.Ytbfnkblcagoemaa.dirty
