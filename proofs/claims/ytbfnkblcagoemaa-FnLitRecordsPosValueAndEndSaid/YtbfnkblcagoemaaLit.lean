/-
  What lit and zzExpectPos return. Conditions: as in the Pos text; the parser's batch of literals is empty.
-/
import Derived.Test.YtbfnkblcagoemaaNext
import Derived.Outline
import Derived.OwnWalk
import Derived.RowKit3
namespace Go.Proofs.Ytbfnkblcagoemaa.lits
open Go.ChangeShapes Go.WideShapes Go.ChangeAt Go.RowKit Go.Proofs.Ytbfnkblcagoemaa.own Go.Proofs.Ytbfnkblcagoemaa.posn Go.Proofs.Ytbfnkblcagoemaa.nextp
def zLit : Value := .agg #[.int .u32 0, .int .u32 0, .int .u32 0, .int .u32 0, .string ⟨#[]⟩]
theorem lit_info : (Try.prog.info? 57).map (fun i => (i.zero, i.size, i.bytes)) = some (some zLit, 5, 32) := by kernel_rfl
theorem info_parts {P : Program} {E : TypeId} {z : Value} {n b : Nat} (h : (P.info? E).map (fun i => (i.zero, i.size, i.bytes)) = some (some z, n, b)) : ∃ i, P.info? E = some i ∧ i.zero = some z ∧ i.size = n ∧ i.bytes = b := by
  cases hi : P.info? E with
  | none => rw [hi] at h; cases h
  | some i => rw [hi] at h; cases h' : i; simp only [Option.map_some, Option.some.injEq, Prod.mk.injEq] at h; subst h'; exact ⟨_, rfl, h.1, h.2.1, h.2.2⟩
theorem sb {w : World} {p a : Addr} {v u : Value} (h : p.block ≠ a.block) (hc : w.cell? a = some u) : (w.setCell p v).cell? a = some u := by
  rw [World.cell?_setCell_other _ _ _ _ (fun e => h (by rw [e]))]; exact hc
theorem so {w : World} {p a : Addr} {v u : Value} (h : p.off ≠ a.off) (hc : w.cell? a = some u) : (w.setCell p v).cell? a = some u := by
  rw [World.cell?_setCell_other _ _ _ _ (fun e => h (by rw [e]))]; exact hc
theorem ss {w : World} {a : Addr} {v u : Value} (hc : w.cell? a = some u) : (w.setCell a v).cell? a = some v := World.cell?_setCell_same _ _ _ hc
/-- what lit leaves: a literal at block g; blocks other than the parser's are as they were -/
def LitPost (b : Nat) (x y : Int) (s : ByteArray) (offs line col bsp wd : Int) (w0 w : World) (e : Ending) (w' : World) : Prop :=
  ∃ g, w.heap.size ≤ g ∧ e = .returned (.pointer (some ⟨g, 0, none⟩)) ∧ w'.cell? ⟨g, 0, none⟩ = some (.int .u32 x) ∧ w'.cell? ⟨g, 1, none⟩ = some (.int .u32 y) ∧
  w'.cell? ⟨g, 2, none⟩ = some (.int .u32 (offN (offs + bsp - wd))) ∧ w'.cell? ⟨g, 3, none⟩ = some (.int .u32 (lcN line col)) ∧ w'.cell? ⟨g, 4, none⟩ = some (.string s) ∧
  (∀ a : Addr, a.block < w.heap.size → a.block ≠ b → w'.cell? a = w.cell? a) ∧ At b w0 offs line col bsp wd w'
set_option maxHeartbeats 1000000 in
theorem lit_any (b : Nat) (x y : Int) (s : ByteArray) (offs line col bsp wd : Int) (w0 w : World) (h : At b w0 offs line col bsp wd w) (hin : Inside offs line col bsp wd) (hl : line ≤ 9223372036854775807) (hc : col ≤ 9223372036854775807) (c37 : w.cell? ⟨b, 37, none⟩ = some (.slice none 0 0)) (f37 : w.frozen? ⟨b, 37, none⟩ = false) :
    Calls Try.prog 41 #[.pointer (some ⟨b, 0, none⟩), .agg #[.int .u32 x, .int .u32 y], .string s] w fun e w' => LitPost b x y s offs line col bsp wd w0 w e w' := by
  have H := Lib.hid h
  clear h
  obtain ⟨i0, hi, hz0, hz1, hz2⟩ := info_parts lit_info
  have hbw : b < w.heap.size := cell_lt c37
  go_enter Try.func41, Try.ntmps41
  iterate 10 go_step
  generalize hW : World.alloc _ _ = W
  have d37 : W.cell? ⟨b, 37, none⟩ = some (.slice none 0 0) := by rw [← hW]; exact ck _ c37
  have e37 : W.frozen? ⟨b, 37, none⟩ = false := by rw [← hW, frozen?_alloc_cells]; exact f37
  have k0 : W.cell? ⟨w.heap.size, 0, none⟩ = some (.int .u32 x) := by rw [← hW]; simp [go_sem]
  have k1 : W.cell? ⟨w.heap.size, 1, none⟩ = some (.int .u32 y) := by rw [← hW]; simp [go_sem]
  have HW := Lib.hid hW
  clear hW
  iterate 31 go_step
  refine wpList_make_full _ rfl _ _ 67 rfl w.heap.size 57 i0 zLit 5 Try.underlying67 hi hz0 hz1 .i64 .i64 _ _ 32 rfl rfl ?c0 ?c1 ?c2 ?c3 ?c4 ?_
  case c0 => rfl
  case c1 => rfl
  case c2 => rw [hz2]; omega
  case c3 => unfold maxLen; omega
  case c4 => rw [← HW.out]; simp
  intro w1 hown hgrow
  have hm : ∀ j v, j < 5 → zLit.cells[j]? = some v → w1.cell? ⟨W.heap.size, j, none⟩ = some v := by
    intro j v hj hv
    have := hown.cells (g := W.heap.size) rfl j v (by rw [Array.getElem?_toList]; unfold madeCells; rw [Array.getElem?_map, Array.getElem?_range]; simp [show j < 160 by omega]; rw [show zLit.cells.size = 5 from rfl, Nat.mod_eq_of_lt hj]; simp [Array.getElem!_eq_getD, Array.getD_eq_getD_getElem?, hv])
    have e : (⟨W.heap.size, 0, none⟩ : Addr).add j = ⟨W.heap.size, j, none⟩ := by cases j <;> simp [Addr.add]
    rw [e] at this; exact this
  have m0 := hm 0 (.int .u32 0) (by omega) rfl
  have m1 := hm 1 (.int .u32 0) (by omega) rfl
  have m2 := hm 2 (.int .u32 0) (by omega) rfl
  have m3 := hm 3 (.int .u32 0) (by omega) rfl
  have m4 := hm 4 (.string ⟨#[]⟩) (by omega) rfl
  have hfr : ∀ j, w1.frozen? ⟨W.heap.size, j, none⟩ = false := fun j => hown.frozenAt j
  have z0 := hfr 0
  have z1 := hfr 1
  have z2 := hfr 2
  have z3 := hfr 3
  have z4 := hfr 4
  have b37 : w1.cell? ⟨b, 37, none⟩ = some (.slice none 0 0) := hgrow.cell d37 (by simp)
  have q0 : w1.cell? ⟨w.heap.size, 0, none⟩ = some (.int .u32 x) := hgrow.cell k0 (by simp)
  have q1 : w1.cell? ⟨w.heap.size, 1, none⟩ = some (.int .u32 y) := hgrow.cell k1 (by simp)
  have hgs : W.heap.size = w.heap.size + 1 := by rw [← HW.out]; simp
  have z37 : w1.frozen? ⟨b, 37, none⟩ = false := (World.frozen?_of_block (hgrow.block b (by omega) (by simp))).trans e37
  have HG := Lib.hid hgrow
  clear hm hfr hown hgrow d37 e37 k0 k1 c37 f37
  rw [hgs] at m0 m1 m2 m3 m4 z0 z1 z2 z3 z4 ⊢
  have n1 : b ≠ w.heap.size := by omega
  have n2 : b ≠ w.heap.size + 1 := by omega
  have hold : ∀ a : Addr, a.block < w.heap.size → w1.cell? a = w.cell? a := by
    intro a ha
    rw [World.cell?_of_block (HG.out.block a.block (by omega) (by simp)), ← HW.out]
    exact World.cell?_of_block (Below.heap_alloc _ _ _ ha)
  have hsz1 : w.heap.size + 1 < w1.heap.size := cell_lt m0
  have HI := Lib.hid hin
  have hbel : Below b w w1 := ((Below.refl b w).alloc (by omega) (.cells #[.int .u32 x, .int .u32 y] 40)).trans (by rw [HW.out]; exact (Below.refl b W).grown HG.out (by omega) (by intro k h; cases h))
  have HO := Lib.hid hold
  have HL := Lib.hid hbel
  clear hold hin hbel
  go_wp2_with fail
  generalize hV : World.setCell _ _ _ = V
  have vA : At b w0 offs line col bsp wd V := by
    obtain ⟨c12, c13, c14, c2, c4, hbl, hbs⟩ := H.out
    have a12 := (HO.out ⟨b, 12, none⟩ (by exact hbw)).trans c12
    have a13 := (HO.out ⟨b, 13, none⟩ (by exact hbw)).trans c13
    have a14 := (HO.out ⟨b, 14, none⟩ (by exact hbw)).trans c14
    have a2 := (HO.out ⟨b, 2, none⟩ (by exact hbw)).trans c2
    have a4 := (HO.out ⟨b, 4, none⟩ (by exact hbw)).trans c4
    rw [← hV]
    refine ⟨?_, ?_, ?_, ?_, ?_, ?_, ?_⟩
    · exact sb (by exact Ne.symm n2) (sb (by exact Ne.symm n2) (so (by simp) (so (by simp) a12)))
    · exact sb (by exact Ne.symm n2) (sb (by exact Ne.symm n2) (so (by simp) (so (by simp) a13)))
    · exact sb (by exact Ne.symm n2) (sb (by exact Ne.symm n2) (so (by simp) (so (by simp) a14)))
    · exact sb (by exact Ne.symm n2) (sb (by exact Ne.symm n2) (so (by simp) (so (by simp) a2)))
    · exact sb (by exact Ne.symm n2) (sb (by exact Ne.symm n2) (so (by simp) (so (by simp) a4)))
    · exact ((((hbl.trans HL.out).setCell (by simp) _).setCell (by simp) _).setCell (by simp; omega) _).setCell (by simp; omega) _
    · simp; omega
  have v0 : V.cell? ⟨w.heap.size + 1, 0, none⟩ = some (.int .u32 x) := by rw [← hV]; exact so (by simp) (ss (sb (by exact n2) (sb (by exact n2) m0)))
  have v1 : V.cell? ⟨w.heap.size + 1, 1, none⟩ = some (.int .u32 y) := by rw [← hV]; exact ss (so (by simp) (sb (by exact n2) (sb (by exact n2) m1)))
  have v2 : V.cell? ⟨w.heap.size + 1, 2, none⟩ = some (.int .u32 0) := by rw [← hV]; exact so (by simp) (so (by simp) (sb (by exact n2) (sb (by exact n2) m2)))
  have v3 : V.cell? ⟨w.heap.size + 1, 3, none⟩ = some (.int .u32 0) := by rw [← hV]; exact so (by simp) (so (by simp) (sb (by exact n2) (sb (by exact n2) m3)))
  have v4 : V.cell? ⟨w.heap.size + 1, 4, none⟩ = some (.string ⟨#[]⟩) := by rw [← hV]; exact so (by simp) (so (by simp) (sb (by exact n2) (sb (by exact n2) m4)))
  have f2 : V.frozen? ⟨w.heap.size + 1, 2, none⟩ = false := by rw [← hV]; simp only [World.frozen?_setCell]; exact z2
  have f3 : V.frozen? ⟨w.heap.size + 1, 3, none⟩ = false := by rw [← hV]; simp only [World.frozen?_setCell]; exact z3
  have f4 : V.frozen? ⟨w.heap.size + 1, 4, none⟩ = false := by rw [← hV]; simp only [World.frozen?_setCell]; exact z4
  have vo : ∀ a : Addr, a.block < w.heap.size → a.block ≠ b → V.cell? a = w.cell? a := by
    intro a h1 h2
    rw [← hV, World.cell?_setCell_other _ _ _ _ (fun e => by have h3 : w.heap.size + 1 < w.heap.size := (by rw [← e] at h1; exact h1); omega), World.cell?_setCell_other _ _ _ _ (fun e => by have h3 : w.heap.size + 1 < w.heap.size := (by rw [← e] at h1; exact h1); omega), World.cell?_setCell_other _ _ _ _ (fun e => h2 (by rw [← e])), World.cell?_setCell_other _ _ _ _ (fun e => h2 (by rw [← e]))]
    exact HO.out a h1
  have vs : w.heap.size + 1 < V.heap.size := cell_lt v0
  have VO := Lib.hid vo
  clear hV vo m0 m1 m2 m3 m4 z0 z1 z2 z3 z4 b37 q0 q1 z37 HG HO HL hsz1
  refine (nextPos_any b _ _ _ _ _ w0 V vA HI.out hl hc).mono ?_
  rintro e w2 ⟨rfl, hb⟩
  have x0 := cb hb (by exact vs) v0
  have x1 := cb hb (by exact vs) v1
  have x2 := cb hb (by exact vs) v2
  have x3 := cb hb (by exact vs) v3
  have x4 := cb hb (by exact vs) v4
  have y2 : w2.frozen? ⟨w.heap.size + 1, 2, none⟩ = false := (hb.frozen (by exact vs)).trans f2
  have y3 : w2.frozen? ⟨w.heap.size + 1, 3, none⟩ = false := (hb.frozen (by exact vs)).trans f3
  have y4 : w2.frozen? ⟨w.heap.size + 1, 4, none⟩ = false := (hb.frozen (by exact vs)).trans f4
  have XB := Lib.hid hb
  have VA := Lib.hid vA
  clear hb v0 v1 v2 v3 v4 f2 f3 f4 vA
  go_wp2_with fail
  have hF : LitPost b x y s offs line col bsp wd w0 w (.returned (.pointer (some ⟨w.heap.size + 1, 0, none⟩))) (((w2.setCell ⟨w.heap.size + 1, 2, none⟩ (.int .u32 (offN (offs + bsp - wd)))).setCell ⟨w.heap.size + 1, 3, none⟩ (.int .u32 (lcN line col))).setCell ⟨w.heap.size + 1, 4, none⟩ (.string s)) := by
    have hvb : b < V.heap.size := by omega
    refine ⟨w.heap.size + 1, by omega, rfl, ?_, ?_, ?_, ?_, ?_, ?_, ?_, ?_, ?_, ?_, ?_, ?_, ?_⟩
    · exact so (by simp) (so (by simp) (so (by simp) x0))
    · exact so (by simp) (so (by simp) (so (by simp) x1))
    · exact so (by simp) (so (by simp) (ss x2))
    · exact so (by simp) (ss (so (by simp) x3))
    · exact ss (so (by simp) (so (by simp) x4))
    · intro a h1 h2
      rw [World.cell?_setCell_other _ _ _ _ (fun e => by have h3 : w.heap.size + 1 < w.heap.size := (by rw [← e] at h1; exact h1); omega), World.cell?_setCell_other _ _ _ _ (fun e => by have h3 : w.heap.size + 1 < w.heap.size := (by rw [← e] at h1; exact h1); omega), World.cell?_setCell_other _ _ _ _ (fun e => by have h3 : w.heap.size + 1 < w.heap.size := (by rw [← e] at h1; exact h1); omega)]
      exact (XB.out.cell (by omega)).trans (VO.out a h1 h2)
    · exact sb (by exact Ne.symm n2) (sb (by exact Ne.symm n2) (sb (by exact Ne.symm n2) (cb XB.out hvb VA.out.1)))
    · exact sb (by exact Ne.symm n2) (sb (by exact Ne.symm n2) (sb (by exact Ne.symm n2) (cb XB.out hvb VA.out.2.1)))
    · exact sb (by exact Ne.symm n2) (sb (by exact Ne.symm n2) (sb (by exact Ne.symm n2) (cb XB.out hvb VA.out.2.2.1)))
    · exact sb (by exact Ne.symm n2) (sb (by exact Ne.symm n2) (sb (by exact Ne.symm n2) (cb XB.out hvb VA.out.2.2.2.1)))
    · exact sb (by exact Ne.symm n2) (sb (by exact Ne.symm n2) (sb (by exact Ne.symm n2) (cb XB.out hvb VA.out.2.2.2.2.1)))
    · exact (((VA.out.2.2.2.2.2.1.trans (XB.out.mono (by omega))).setCell (by simp; omega) _).setCell (by simp; omega) _).setCell (by simp; omega) _
    · have := XB.out.size
      simp; omega
  go_ret
  exact hF
theorem LitPost.shift {b : Nat} {x y : Int} {s : ByteArray} {offs line col bsp wd : Int} {w0 w : World} {o : Obj} {e : Ending} {w' : World} (h : LitPost b x y s offs line col bsp wd w0 (w.alloc o) e w') : LitPost b x y s offs line col bsp wd w0 w e w' := by
  obtain ⟨g, hg, he, c0, c1, c2, c3, c4, ho, hA⟩ := h
  refine ⟨g, by simp at hg; omega, he, c0, c1, c2, c3, c4, fun a h1 h2 => ?_, hA⟩
  rw [ho a (by simp; omega) h2]
  exact World.cell?_alloc_lt _ _ _ h1
theorem zlit_any (b : Nat) (x y : Int) (s : ByteArray) (offs line col bsp wd : Int) (w0 w : World) (h : At b w0 offs line col bsp wd w) (hin : Inside offs line col bsp wd) (hl : line ≤ 9223372036854775807) (hc : col ≤ 9223372036854775807) (c37 : w.cell? ⟨b, 37, none⟩ = some (.slice none 0 0)) (f37 : w.frozen? ⟨b, 37, none⟩ = false) :
    Calls Try.prog 27 #[.pointer (some ⟨b, 0, none⟩), .agg #[.int .u32 x, .int .u32 y], .string s] w fun e w' => LitPost b x y s offs line col bsp wd w0 w e w' := by
  have H := Lib.hid h
  have HI := Lib.hid hin
  clear h hin
  go_enter Try.func27, Try.ntmps27
  go_wp2_with fail
  refine (lit_any b x y s offs line col bsp wd w0 _ ?_ HI.out hl hc (ck _ c37) (by rw [frozen?_alloc_cells]; exact f37)).mono ?_
  · obtain ⟨c12, c13, c14, c2, c4, hbl, hbs⟩ := H.out
    exact ⟨ck _ c12, ck _ c13, ck _ c14, ck _ c2, ck _ c4, hbl.alloc (by omega) _, by simp; omega⟩
  · intro e w1 hP
    have HP := Lib.hid hP.shift
    obtain ⟨g, hg, rfl, _⟩ := hP
    go_wp2_with fail
    go_ret
    exact HP.out
theorem expect_any (offs line col bsp wd : Int) (w : World) (hin : Inside offs line col bsp wd) (hl : line ≤ 9223372036854775807) (hc : col ≤ 9223372036854775807) :
    Calls Try.prog 28 #[.int .i64 offs, .int .i64 line, .int .i64 col, .int .u64 bsp, .int .i64 wd] w fun e w' => e = .returned (.tuple #[.int .u32 (offN (offs + bsp - wd)), .int .u32 (lcN line col)]) ∧ w = w' := by
  obtain ⟨i1, i2, i3, i4, i5, i6, i7, i8, i9⟩ := hin
  by_cases c1 : offs + bsp - wd ≤ 4294967284
  all_goals by_cases c2 : line ≤ 262143
  all_goals by_cases c3 : col ≤ 16383
  all_goals
    go_enter Try.func28, Try.ntmps28
    go_wp2
    first | rw [off1 (offs + bsp - wd) (by omega)] | rw [off2 (offs + bsp - wd) (by omega)]
    first | rw [lc1 line col i7 i8 (by omega) (by omega)] | rw [lc2 line col i7 (by omega) (by omega)] | rw [lc3 line col i8 (by omega) (by omega)] | rw [lc4 line col (by omega) (by omega)]
    go_ret2
    exact ⟨rfl, rfl⟩
set_option maxRecDepth 100000 in
theorem Z37 : Z[37]? = some (.slice none 0 0) := by kernel_rfl
theorem newParser2 (offs line col bsp wd : Int) (w : World) : Calls Try.prog 21 #[.int .i64 offs, .int .i64 line, .int .i64 col, .int .u64 bsp, .int .i64 wd] w fun e w' =>
    NewAt offs line col bsp wd w e w' ∧ w'.cell? ⟨w.heap.size, 37, none⟩ = some (.slice none 0 0) ∧ w'.frozen? ⟨w.heap.size, 37, none⟩ = false := by
  refine (newParser0 offs line col bsp wd w _ (builtPos offs line col bsp wd)).mono ?_
  rintro e w' ⟨rfl, rfl⟩
  refine ⟨⟨rfl, ?_, ?_, ?_, ?_, ?_, (Below.refl _ _).alloc (Nat.le_refl _) _, by simp⟩, ?_, by simp [go_sem]⟩
  all_goals rw [World.cell?_alloc_at _ _ _ _ rfl]; simp [posCells, Zsize]
  exact (Array.getElem?_eq_some_iff.mp Z37).2
end Go.Proofs.Ytbfnkblcagoemaa.lits
