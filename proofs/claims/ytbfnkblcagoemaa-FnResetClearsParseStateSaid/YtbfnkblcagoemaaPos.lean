/-
  What NewPos, Parser.nextPos and two helpers of the law return. Conditions: the reader's position is one that zzPosOutside lets by.
-/
import Derived.Test.YtbfnkblcagoemaaRows
import Derived.Test.YtbfnkblcagoemaaOwn
import Derived.Laws.BitsAll
import Derived.Laws.Tables
import Derived.BigQuiet
import Derived.Deep.QuietTactic
namespace Go.Proofs.Ytbfnkblcagoemaa.posn
open Go.ChangeShapes Go.WideShapes Go.ChangeAt Go.RowKit Go.Proofs.Ytbfnkblcagoemaa.own
def offN (o : Int) : Int := if o ≤ 4294967284 then o else 4294967284
def lineN (l : Int) : Int := if l ≤ 262143 then l else 0
def colN (c : Int) : Int := if c ≤ 16383 then c else 0
def lcN (l c : Int) : Int := lineN l * 16384 + colN c

theorem offN_bd (o : Int) (h : 0 ≤ o) : 0 ≤ offN o ∧ offN o ≤ 4294967284 := by unfold offN; split <;> omega
theorem lineN_bd (o : Int) (h : 0 ≤ o) : 0 ≤ lineN o ∧ lineN o ≤ 262143 := by unfold lineN; split <;> omega
theorem colN_bd (o : Int) (h : 0 ≤ o) : 0 ≤ colN o ∧ colN o ≤ 16383 := by unfold colN; split <;> omega
theorem lcN_bd (l c : Int) (h : 0 ≤ l) (h' : 0 ≤ c) : 0 ≤ lcN l c ∧ lcN l c ≤ 4294967295 := by
  have := lineN_bd l h; have := colN_bd c h'; unfold lcN; omega
theorem lcN_line (l c : Int) (h : 0 ≤ l) (h' : 0 ≤ c) : lcN l c / 16384 = lineN l := by
  have := lineN_bd l h; have := colN_bd c h'; unfold lcN; omega
theorem lcN_col (l c : Int) (h : 0 ≤ l) (h' : 0 ≤ c) : lcN l c % 16384 = colN c := by
  have := lineN_bd l h; have := colN_bd c h'; unfold lcN; omega

theorem and14 (y : Int) (h1 : 0 ≤ y) (h2 : y ≤ 4294967295) : bits .and .u32 y 16383 = y % 16384 := by
  go_bits2
theorem and14u (y : Int) (h1 : 0 ≤ y) (h2 : y ≤ 4294967295) : IntKind.u64.wrap (bits .and .u32 y 16383) = y % 16384 := by
  rw [and14 y h1 h2, IntKind.wrap_u64]; omega

theorem or14 (L C : Int) (h1 : 0 ≤ L) (h2 : L ≤ 262143) (h3 : 0 ≤ C) (h4 : C ≤ 16383) : bits .or .u32 (L * 16384) C = L * 16384 + C := by
  obtain ⟨x, rfl⟩ := Int.eq_ofNat_of_zero_le h1
  obtain ⟨y, rfl⟩ := Int.eq_ofNat_of_zero_le h3
  rw [u32_or _ _ (by omega) (by omega) (by omega) (by omega)]
  rw [show ((x : Int) * 16384).toNat = x * 16384 by omega, Int.toNat_natCast, nat_join 14 (x * 16384) y (by omega) (by omega)]
  omega
theorem off1 (o : Int) (h : o ≤ 4294967284) : offN o = o := by unfold offN; rw [if_pos h]
theorem off2 (o : Int) (h : 4294967284 < o) : offN o = 4294967284 := by unfold offN; rw [if_neg (by omega)]
theorem lc1 (l c : Int) (h2 : 0 ≤ l) (h3 : 0 ≤ c) (hl : l ≤ 262143) (hc : c ≤ 16383) : lcN l c = bits .or .u32 (l * 16384) c := by
  rw [or14 l c h2 hl h3 hc]; unfold lcN lineN colN; rw [if_pos hl, if_pos hc]
theorem lc2 (l c : Int) (h2 : 0 ≤ l) (hl : l ≤ 262143) (hc : 16383 < c) : lcN l c = bits .or .u32 (l * 16384) 0 := by
  rw [or14 l 0 h2 hl (by omega) (by omega)]; unfold lcN lineN colN; rw [if_pos hl, if_neg (by omega)]
theorem lc3 (l c : Int) (h3 : 0 ≤ c) (hl : 262143 < l) (hc : c ≤ 16383) : lcN l c = bits .or .u32 0 c := by
  have := or14 0 c (by omega) (by omega) h3 hc
  rw [Int.zero_mul] at this; rw [this]; unfold lcN lineN colN; rw [if_neg (by omega), if_pos hc, Int.zero_mul]
theorem lc4 (l c : Int) (hl : 262143 < l) (hc : 16383 < c) : lcN l c = bits .or .u32 0 0 := by
  have := or14 0 0 (by omega) (by omega) (by omega) (by omega)
  rw [Int.zero_mul] at this; rw [this]; unfold lcN lineN colN; rw [if_neg (by omega), if_neg (by omega)]; rfl

theorem newPos_any (o l c : Int) (w : World) (h1 : 0 ≤ o) (h2 : 0 ≤ l) (h3 : 0 ≤ c) :
    Calls Try.prog 18 #[.int .u64 o, .int .u64 l, .int .u64 c] w fun e w' => e = .returned (.agg #[.int .u32 (offN o), .int .u32 (lcN l c)]) ∧ w.alloc (.cells #[.int .u32 (offN o), .int .u32 (lcN l c)] 40) = w' := by
  by_cases c1 : o ≤ 4294967284
  all_goals by_cases c2 : l ≤ 262143
  all_goals by_cases c3 : c ≤ 16383
  all_goals
    go_enter Try.func18, Try.ntmps18
    go_wp2
    first | rw [off1 o (by omega)] | rw [off2 o (by omega)]
    first | rw [lc1 l c h2 h3 (by omega) (by omega)] | rw [lc2 l c h2 (by omega) (by omega)] | rw [lc3 l c h3 (by omega) (by omega)] | rw [lc4 l c (by omega) (by omega)]
    exact bodyPost_ret (v := .agg #[_, _]) (by simp [results, Try.results18, go_sem]) rfl ⟨rfl, rfl⟩

theorem newPos_below (o l c : Int) (w : World) (h1 : 0 ≤ o) (h2 : 0 ≤ l) (h3 : 0 ≤ c) :
    Calls Try.prog 18 #[.int .u64 o, .int .u64 l, .int .u64 c] w fun e w' => e = .returned (.agg #[.int .u32 (offN o), .int .u32 (lcN l c)]) ∧ Below w.heap.size w w' := by
  refine (newPos_any o l c w h1 h2 h3).mono ?_
  rintro e w' ⟨rfl, rfl⟩
  exact ⟨rfl, (Below.refl _ _).alloc (Nat.le_refl _) _⟩
/-! ### a new parser -/
noncomputable def Z : Array Value := (((Try.prog.info? 81).getD default).zero.getD (.bool false)).cells
set_option maxRecDepth 100000 in
theorem Zsize : Z.size = 2088 := by kernel_rfl
theorem wpList_build_at {P : Program} {ops : Array Oper} {rest : List Oper} {o : Oper} {a : Act} {w : World} {Q : Exit → Act → World → Prop} (hg : o.guard = none) (t : TypeId) (parts : Array (Nat × Operand)) (ho : o.op = .build t parts)
    (vs : List (Nat × Value)) (hv : (parts.map fun (i, x) => (i, a.eval x)).toList = vs) (cells : Array Value) (hb : P.built t vs = some cells) (h : wpList P ops Q rest (a.put o.dst (.agg cells)) w) : wpList P ops Q (o :: rest) a w :=
  wpList_build hg t parts ho (by rw [hv, hb]; rfl) (by rw [hv, hb]; exact h)
def posParts (offs line col bsp wd : Int) : List (Nat × Value) := [(12, .int .i64 offs), (13, .int .i64 line), (14, .int .i64 col), (2, .int .u64 bsp), (4, .int .i64 wd)]
noncomputable def posCells (offs line col bsp wd : Int) : Array Value := ((((Z.setIfInBounds 12 (.int .i64 offs)).setIfInBounds 13 (.int .i64 line)).setIfInBounds 14 (.int .i64 col)).setIfInBounds 2 (.int .u64 bsp)).setIfInBounds 4 (.int .i64 wd)
set_option maxRecDepth 100000 in
theorem builtPos (offs line col bsp wd : Int) : Try.prog.built 81 (posParts offs line col bsp wd) = some (posCells offs line col bsp wd) := by kernel_rfl
set_option maxRecDepth 100000 in
theorem newParser0 (offs line col bsp wd : Int) (w : World) (A : Array Value) (hb : Try.prog.built 81 (posParts offs line col bsp wd) = some A) :
    Calls Try.prog 21 #[.int .i64 offs, .int .i64 line, .int .i64 col, .int .u64 bsp, .int .i64 wd] w fun e w' => e = .returned (.pointer (some ⟨w.heap.size, 0, none⟩)) ∧ w.alloc (.cells A 81) = w' := by
  have HB := Lib.hid hb
  clear hb
  go_enter Try.func21, Try.ntmps21
  iterate 26 go_step
  refine wpList_build_at rfl 81 _ rfl (posParts offs line col bsp wd) (by simp [go_sem, posParts]) A HB.out ?_
  go_wp2
  go_ret
  exact ⟨rfl, rfl⟩
/-- block b holds a parser at this reader position; below b nothing has changed since w0 -/
def At (b : Nat) (w0 : World) (offs line col bsp wd : Int) (wr : World) : Prop :=
  wr.cell? ⟨b, 12, none⟩ = some (.int .i64 offs) ∧ wr.cell? ⟨b, 13, none⟩ = some (.int .i64 line) ∧ wr.cell? ⟨b, 14, none⟩ = some (.int .i64 col) ∧
  wr.cell? ⟨b, 2, none⟩ = some (.int .u64 bsp) ∧ wr.cell? ⟨b, 4, none⟩ = some (.int .i64 wd) ∧ Below b w0 wr ∧ b < wr.heap.size
def NewAt (offs line col bsp wd : Int) (w : World) (e : Ending) (w' : World) : Prop := e = .returned (.pointer (some ⟨w.heap.size, 0, none⟩)) ∧ At w.heap.size w offs line col bsp wd w'
theorem newParser (offs line col bsp wd : Int) (w : World) : Calls Try.prog 21 #[.int .i64 offs, .int .i64 line, .int .i64 col, .int .u64 bsp, .int .i64 wd] w (NewAt offs line col bsp wd w) := by
  refine (newParser0 offs line col bsp wd w _ (builtPos offs line col bsp wd)).mono ?_
  rintro e w' ⟨rfl, rfl⟩
  refine ⟨rfl, ?_, ?_, ?_, ?_, ?_, (Below.refl _ _).alloc (Nat.le_refl _) _, by simp⟩
  all_goals rw [World.cell?_alloc_at _ _ _ _ rfl]; simp [posCells, Zsize]
/-- where zzPosOutside says false -/
def Inside (offs line col bsp wd : Int) : Prop := 0 ≤ offs ∧ offs ≤ 4611686018427387904 ∧ 0 ≤ bsp ∧ bsp ≤ 4294967296 ∧ 0 ≤ wd ∧ wd ≤ 4 ∧ 0 ≤ line ∧ 0 ≤ col ∧ 0 ≤ offs + bsp - wd
theorem offN_offN (x : Int) : offN (offN x) = offN x := by unfold offN; (repeat' split) <;> omega
theorem offN_if (x : Int) : (if 4294967284 < x then 4294967284 else x) = offN x := by unfold offN; (repeat' split) <;> omega
theorem lc_cutL (l c : Int) (h : 262143 < l) : lcN 0 c = lcN l c := by unfold lcN lineN; rw [if_pos (by omega), if_neg (by omega)]
theorem lc_cutC (l c : Int) (h : 16383 < c) : lcN l 0 = lcN l c := by unfold lcN colN; rw [if_pos (by omega), if_neg (by omega)]
set_option maxHeartbeats 2000000 in
theorem nextPos_any (b : Nat) (offs line col bsp wd : Int) (w0 w : World) (h : At b w0 offs line col bsp wd w) (hi : Inside offs line col bsp wd) (hl : line ≤ 9223372036854775807) (hc : col ≤ 9223372036854775807) :
    Calls Try.prog 39 #[.pointer (some ⟨b, 0, none⟩)] w fun e w' => e = .returned (.agg #[.int .u32 (offN (offs + bsp - wd)), .int .u32 (lcN line col)]) ∧ Below w.heap.size w w' := by
  obtain ⟨i1, i2, i3, i4, i5, i6, i7, i8, i9⟩ := hi
  obtain ⟨c12, c13, c14, c2, c4, hbl, hbs⟩ := h
  clear hbl hbs
  have hoff := offN_bd (offs + bsp - wd) i9
  by_cases kl : line ≤ 262143
  all_goals by_cases kc : col ≤ 16383
  all_goals
    go_enter Try.func39, Try.ntmps39
    go_wp2
    generalize hW : World.alloc _ _ = W
    have d12 : W.cell? ⟨b, 12, none⟩ = some (.int .i64 offs) := by rw [← hW]; exact ck _ c12
    have d13 : W.cell? ⟨b, 13, none⟩ = some (.int .i64 line) := by rw [← hW]; exact ck _ c13
    have d14 : W.cell? ⟨b, 14, none⟩ = some (.int .i64 col) := by rw [← hW]; exact ck _ c14
    have d2 : W.cell? ⟨b, 2, none⟩ = some (.int .u64 bsp) := by rw [← hW]; exact ck _ c2
    have d4 : W.cell? ⟨b, 4, none⟩ = some (.int .i64 wd) := by rw [← hW]; exact ck _ c4
    have e0 : W.cell? ⟨w.heap.size, 0, none⟩ = some (.int .u32 0) := by rw [← hW]; simp [go_sem]
    have e1 : W.cell? ⟨w.heap.size, 1, none⟩ = some (.int .u32 0) := by rw [← hW]; simp [go_sem]
    have z0 : W.frozen? ⟨w.heap.size, 0, none⟩ = false := by rw [← hW]; simp [go_sem]
    have z1 : W.frozen? ⟨w.heap.size, 1, none⟩ = false := by rw [← hW]; simp [go_sem]
    have hs : w.heap.size < W.heap.size := by rw [← hW]; simp
    have hg : Below w.heap.size w W := by rw [← hW]; go_grown
    clear hW c12 c13 c14 c2 c4
    have s1 : IntKind.i64.wrap bsp = bsp := IntWalk.i64_in _ (by omega)
    have s2 : IntKind.i64.wrap (offs + bsp) = offs + bsp := IntWalk.i64_in _ (by omega)
    have s3 : IntKind.i64.wrap (offs + bsp - wd) = offs + bsp - wd := IntWalk.i64_in _ (by omega)
    go_quiet (fail)
    clear s1 s2 s3
    rw [offN_if]
    obtain ⟨W2, hW2⟩ : ∃ W2 : World, W2 = W.drewN nq := ⟨_, rfl⟩
    rw [← hW2]
    have f13 : W2.cell? ⟨b, 13, none⟩ = some (.int .i64 line) := by rw [hW2]; exact d13
    have f14 : W2.cell? ⟨b, 14, none⟩ = some (.int .i64 col) := by rw [hW2]; exact d14
    have g0 : W2.cell? ⟨w.heap.size, 0, none⟩ = some (.int .u32 0) := by rw [hW2]; exact e0
    have g1 : W2.cell? ⟨w.heap.size, 1, none⟩ = some (.int .u32 0) := by rw [hW2]; exact e1
    have y0 : W2.frozen? ⟨w.heap.size, 0, none⟩ = false := by rw [hW2]; exact z0
    have y1 : W2.frozen? ⟨w.heap.size, 1, none⟩ = false := by rw [hW2]; exact z1
    have hs2 : w.heap.size < W2.heap.size := by rw [hW2]; exact hs
    have hg2 : Below w.heap.size w W2 := by rw [hW2]; exact ⟨hg.os, hg.tape, hg.output, hg.size, hg.block⟩
    clear hW2 d12 d13 d14 d2 d4 e0 e1 z0 z1 hs hg
    go_wp2_with fail
    refine (newPos_below _ _ _ _ (by omega) (by omega) (by omega)).mono ?_
    rintro e w1 ⟨rfl, hb⟩
    have v0 : w1.cell? ⟨w.heap.size, 0, none⟩ = some (.int .u32 0) := cb hb (by exact hs2) g0
    have v1 : w1.cell? ⟨w.heap.size, 1, none⟩ = some (.int .u32 0) := cb hb (by exact hs2) g1
    have u0 : w1.frozen? ⟨w.heap.size, 0, none⟩ = false := (hb.frozen (by exact hs2)).trans y0
    have u1 : w1.frozen? ⟨w.heap.size, 1, none⟩ = false := (hb.frozen (by exact hs2)).trans y1
    have hg3 : Below w.heap.size w w1 := hg2.trans (hb.mono (by omega))
    clear hb hg2 g0 g1 y0 y1 f13 f14
    have ho := offN_offN (offs + bsp - wd)
    go_wp2
    first | rw [← lc_cutL line col (by omega)] | skip
    first | rw [← lc_cutC _ col (by omega)] | skip
    exact bodyPost_ret (v := .agg #[_, _]) (by simp [results, Try.results39, go_sem, *]) rfl ⟨rfl, by go_grown⟩
end Go.Proofs.Ytbfnkblcagoemaa.posn
