/-
  What zzPosOutside, ZZposFields and ZZnextPos return. Conditions: as in the Pos text.
-/
import Derived.Test.YtbfnkblcagoemaaPos
namespace Go.Proofs.Ytbfnkblcagoemaa.nextp
open Go.ChangeShapes Go.WideShapes Go.ChangeAt Go.RowKit Go.Proofs.Ytbfnkblcagoemaa.own Go.Proofs.Ytbfnkblcagoemaa.posn
theorem fields_any (x y : Int) (w : World) : Calls Try.prog 20 #[.agg #[.int .u32 x, .int .u32 y]] w fun e w' => e = .returned (.tuple #[.int .u32 x, .int .u32 y]) ∧ Below w.heap.size w w' := by
  go_enter Try.func20, Try.ntmps20
  go_wp2
  generalize hW : World.alloc _ _ = W
  have c0 : W.cell? ⟨w.heap.size, 0, none⟩ = some (.int .u32 x) := by rw [← hW]; simp [go_sem]
  have c1 : W.cell? ⟨w.heap.size, 1, none⟩ = some (.int .u32 y) := by rw [← hW]; simp [go_sem]
  have hg : Below w.heap.size w W := by rw [← hW]; go_grown
  clear hW
  go_quiet (fail)
  go_wp2
  go_ret2
  exact ⟨rfl, ⟨hg.os, hg.tape, hg.output, hg.size, hg.block⟩⟩
theorem out_in (offs line col bsp wd : Int) (w : World) (h : Inside offs line col bsp wd) : Calls Try.prog 19 #[.int .i64 offs, .int .i64 line, .int .i64 col, .int .u64 bsp, .int .i64 wd] w fun e w' => e = .returned (.bool false) ∧ w = w' := by
  obtain ⟨i1, i2, i3, i4, i5, i6, i7, i8, i9⟩ := h
  go_enter Try.func19, Try.ntmps19
  go_wp2
  go_ret
  exact ⟨rfl, rfl⟩
theorem out_out (offs line col bsp wd : Int) (w : World) (hb : 0 ≤ bsp) (h : ¬ Inside offs line col bsp wd) : Calls Try.prog 19 #[.int .i64 offs, .int .i64 line, .int .i64 col, .int .u64 bsp, .int .i64 wd] w fun e w' => e = .returned (.bool true) ∧ w = w' := by
  by_cases k1 : offs < 0
  · clear h
    go_enter Try.func19, Try.ntmps19
    go_wp2
    go_ret
    exact ⟨rfl, rfl⟩
  by_cases k2 : 4611686018427387904 < offs
  · clear h
    go_enter Try.func19, Try.ntmps19
    go_wp2
    go_ret
    exact ⟨rfl, rfl⟩
  by_cases k3 : 4294967296 < bsp
  · clear h
    go_enter Try.func19, Try.ntmps19
    go_wp2
    go_ret
    exact ⟨rfl, rfl⟩
  by_cases k4 : wd < 0
  · clear h
    go_enter Try.func19, Try.ntmps19
    go_wp2
    go_ret
    exact ⟨rfl, rfl⟩
  by_cases k5 : 4 < wd
  · clear h
    go_enter Try.func19, Try.ntmps19
    go_wp2
    go_ret
    exact ⟨rfl, rfl⟩
  by_cases k6 : line < 0
  · clear h
    go_enter Try.func19, Try.ntmps19
    go_wp2
    go_ret
    exact ⟨rfl, rfl⟩
  by_cases k7 : col < 0
  · clear h
    go_enter Try.func19, Try.ntmps19
    go_wp2
    go_ret
    exact ⟨rfl, rfl⟩
  by_cases k8 : offs + bsp - wd < 0
  · clear h
    go_enter Try.func19, Try.ntmps19
    go_wp2
    go_ret
    exact ⟨rfl, rfl⟩
  exact absurd (show Inside offs line col bsp wd from ⟨by omega, by omega, by omega, by omega, by omega, by omega, by omega, by omega, by omega⟩) h
/-- ZZnextPos, which calls nextPos -/
theorem znext_any (b : Nat) (offs line col bsp wd : Int) (w0 w : World) (h : At b w0 offs line col bsp wd w) (hi : Inside offs line col bsp wd) (hl : line ≤ 9223372036854775807) (hc : col ≤ 9223372036854775807) :
    Calls Try.prog 17 #[.pointer (some ⟨b, 0, none⟩)] w fun e w' => e = .returned (.agg #[.int .u32 (offN (offs + bsp - wd)), .int .u32 (lcN line col)]) ∧ Below w.heap.size w w' := by
  have H := Lib.hid h
  clear h
  go_enter Try.func17, Try.ntmps17
  go_wp2_with fail
  generalize hW : World.alloc _ _ = W
  have hA : At b w0 offs line col bsp wd W := by
    obtain ⟨c12, c13, c14, c2, c4, hbl, hbs⟩ := H.out
    rw [← hW]
    exact ⟨ck _ c12, ck _ c13, ck _ c14, ck _ c2, ck _ c4, hbl.alloc (by omega) _, by simp; omega⟩
  have e0 : W.cell? ⟨w.heap.size, 0, none⟩ = some (.int .u32 0) := by rw [← hW]; simp [go_sem]
  have e1 : W.cell? ⟨w.heap.size, 1, none⟩ = some (.int .u32 0) := by rw [← hW]; simp [go_sem]
  have z0 : W.frozen? ⟨w.heap.size, 0, none⟩ = false := by rw [← hW]; simp [go_sem]
  have z1 : W.frozen? ⟨w.heap.size, 1, none⟩ = false := by rw [← hW]; simp [go_sem]
  have hs : w.heap.size < W.heap.size := by rw [← hW]; simp
  have hg : Below w.heap.size w W := by rw [← hW]; go_grown
  clear hW
  refine (nextPos_any b _ _ _ _ _ w0 W hA hi hl hc).mono ?_
  rintro e w1 ⟨rfl, hb⟩
  have v0 : w1.cell? ⟨w.heap.size, 0, none⟩ = some (.int .u32 0) := cb hb (by exact hs) e0
  have v1 : w1.cell? ⟨w.heap.size, 1, none⟩ = some (.int .u32 0) := cb hb (by exact hs) e1
  have u0 : w1.frozen? ⟨w.heap.size, 0, none⟩ = false := (hb.frozen (by exact hs)).trans z0
  have u1 : w1.frozen? ⟨w.heap.size, 1, none⟩ = false := (hb.frozen (by exact hs)).trans z1
  have hg3 : Below w.heap.size w w1 := hg.trans (hb.mono (by omega))
  clear hb hg e0 e1 z0 z1 hA
  go_wp2
  exact bodyPost_ret (v := .agg #[_, _]) (by simp [results, Try.results17, go_sem, *]) rfl ⟨rfl, by go_grown⟩
end Go.Proofs.Ytbfnkblcagoemaa.nextp
