/-
  What StopAt, KeepComments, RecoverErrors and NewParser of the three do. Conditions: an accepted stop word.
-/
import Derived.Test.YtjhnnfbnfgaheaaAny
import Derived.Test.YtjhnnfbnfgaheaaOwn
import Derived.Laws.EntriesVeiled
import Derived.Laws.MakeOwn
namespace Go.Proofs.Ytjhnnfbnfgaheaa.stops
open Go.ChangeShapes Go.WideShapes Go.ChangeAt Go.RowKit Go.Proofs.Ytjhnnfbnfgaheaa.runes Go.Proofs.Ytjhnnfbnfgaheaa.own
set_option linter.unusedVariables false
theorem below_drew {B : Nat} {a w : World} (h : Below B a w) : Below B a w.drew := h.trans ⟨rfl, rfl, rfl, Nat.le_refl _, fun _ _ => rfl⟩
/-- an accepted word -/
def Ok (s : ByteArray) : Prop := s.size ≤ 4 ∧ ∀ b ∈ s.data.toList, b ∉ [32, 9, 10, 13]
theorem ws_ascii : ∀ b ∈ (⟨#[32, 9, 10, 13]⟩ : ByteArray).data.toList, b.toNat < 128 := by decide
def clo (f : Nat) (b : Nat) : Value := .func (Fn.func f) #[] #[.pointer (some ⟨b, 0, none⟩)]
set_option maxHeartbeats 2000000 in
set_option maxRecDepth 1000000 in
theorem stopAt (s : ByteArray) (h : Ok s) (w : World) :
    Calls Try.prog 15 #[.string s] w fun e w' => e = .returned (.func (Fn.func 25) #[] #[.pointer (some ⟨w.heap.size, 0, none⟩)]) ∧ w'.cell? ⟨w.heap.size, 0, none⟩ = some (.string s) ∧ Below w.heap.size w w' ∧ w.heap.size < w'.heap.size := by
  have hc := fun w => contains_none s ⟨#[32, 9, 10, 13]⟩ (by have := h.1; omega) (by decide) (by decide) ws_ascii h.2 w
  have h4 := h.1
  clear h
  go_enter Try.func15, Try.ntmps15
  go_wp2_with (go_at_call 24; refine (hc _).mono ?_; rintro e W1 ⟨rfl, hb⟩)
  have hs := hb.size
  simp at hs
  go_ret
  refine ⟨rfl, ?_, ?_, by omega⟩
  · rw [hb.cell (p := ⟨w.heap.size, 0, none⟩) (by simp)]; simp [go_sem]
  · exact ((Below.refl _ _).alloc (Nat.le_refl _) _).trans (hb.mono (by simp))
theorem keepC (b : Bool) (w : World) :
    Calls Try.prog 16 #[.bool b] w fun e w' => e = .returned (.func (Fn.func 26) #[] #[.pointer (some ⟨w.heap.size, 0, none⟩)]) ∧ w.alloc (.cells #[.bool b] 4) = w' := by
  go_enter Try.func16, Try.ntmps16
  go_wp2
  go_ret
  exact ⟨rfl, rfl⟩
theorem recov (m : Int) (w : World) :
    Calls Try.prog 17 #[.int .i64 m] w fun e w' => e = .returned (.func (Fn.func 27) #[] #[.pointer (some ⟨w.heap.size, 0, none⟩)]) ∧ w.alloc (.cells #[.int .i64 m] 3) = w' := by
  go_enter Try.func17, Try.ntmps17
  go_wp2
  go_ret
  exact ⟨rfl, rfl⟩
def PAt (p : Nat) (s : ByteArray) (k : Bool) (m : Int) (W : World) : Prop :=
  ∃ g cap, W.cell? ⟨p, 19, none⟩ = some (.bool k) ∧ W.cell? ⟨p, 20, none⟩ = some (.int .i64 1) ∧ W.cell? ⟨p, 21, none⟩ = some (.slice (some ⟨g, 0, none⟩) s.size cap) ∧ W.cell? ⟨p, 23, none⟩ = some (.int .i64 m) ∧
    (∀ (j : Nat) (h : j < s.size), W.cell? ⟨g, j, none⟩ = some (.int .u8 (s[j].toNat : Int))) ∧ p < W.heap.size ∧ g < W.heap.size
theorem row_at (s : ByteArray) (cap j : Nat) (h : j < s.size) : (bytesRow s cap)[j]? = some (.int .u8 (s[j].toNat : Int)) := bytesRow_at s cap j h
theorem cell_mark (X : World) (n j : Nat) (hn : n = X.heap.size) (c : Array Value) (t : TypeId) (mk : Nat × Nat) (v : Value) (h : c[j]? = some v) : (X.alloc (.cells c t mk)).cell? ⟨n, j, none⟩ = some v := by
  subst hn
  rw [World.cell?_alloc_mark]
  exact h
noncomputable def Z : Array Value := (((Try.prog.info? 68).getD default).zero.getD (.bool false)).cells
set_option maxRecDepth 100000 in
theorem Zsize : Z.size = 2088 := by kernel_rfl
theorem wpList_build_at {P : Program} {ops : Array Oper} {rest : List Oper} {o : Oper} {a : Act} {w : World} {Q : Exit → Act → World → Prop} (hg : o.guard = none) (t : TypeId) (parts : Array (Nat × Operand)) (ho : o.op = .build t parts)
    (vs : List (Nat × Value)) (hv : (parts.map fun (i, x) => (i, a.eval x)).toList = vs) (cells : Array Value) (hb : P.built t vs = some cells) (h : wpList P ops Q rest (a.put o.dst (.agg cells)) w) : wpList P ops Q (o :: rest) a w :=
  wpList_build hg t parts ho (by rw [hv, hb]; rfl) (by rw [hv, hb]; exact h)
noncomputable def langCells : Array Value := Z.setIfInBounds 20 (.int .i64 1)
theorem lang20 : langCells[20]? = some (.int .i64 1) := by simp [langCells, Zsize]
theorem lang19 : langCells[19]? = some (.bool false) := by kernel_rfl
theorem lang21 : langCells[21]? = some (.slice none 0 0) := by kernel_rfl
theorem lang23 : langCells[23]? = some (.int .i64 0) := by kernel_rfl
set_option maxRecDepth 100000 in
theorem builtLang : Try.prog.built 68 [(19, .int .i64 1)] = some langCells := by kernel_rfl
set_option maxHeartbeats 2000000 in
set_option maxRecDepth 1000000 in
theorem np1 (s : ByteArray) (k : Bool) (m : Int) (b bs bk bm : Nat) (w : World) (c0 : w.cell? ⟨b, 0, none⟩ = some (clo 25 bs)) (c1 : w.cell? ⟨b, 1, none⟩ = some (clo 26 bk)) (c2 : w.cell? ⟨b, 2, none⟩ = some (clo 27 bm))
    (d0 : w.cell? ⟨bs, 0, none⟩ = some (.string s)) (d1 : w.cell? ⟨bk, 0, none⟩ = some (.bool k)) (d2 : w.cell? ⟨bm, 0, none⟩ = some (.int .i64 m)) :
    Calls Try.prog 14 #[.slice (some ⟨b, 0, none⟩) 3 3] w fun e w' => e = .returned (.pointer (some ⟨w.heap.size, 0, none⟩)) ∧ PAt w.heap.size s k m w' ∧ Below w.heap.size w w' := by
  have HB := Lib.hid builtLang
  have a19 := lang19
  have a20 := lang20
  have a21 := lang21
  have a23 := lang23
  generalize langCells = A at HB a19 a20 a21 a23
  have HA := Lib.hid (And.intro a19 (And.intro a20 (And.intro a21 a23)))
  clear a19 a20 a21 a23
  go_enter Try.func14, Try.ntmps14
  iterate 11 go_step
  refine wpList_build_at rfl 68 _ rfl [(19, .int .i64 1)] (by simp [go_sem]) A HB.out ?_
  go_wp2
  generalize hW : World.alloc _ _ = W
  have b0 : W.cell? ⟨b, 0, none⟩ = some (clo 25 bs) := by rw [← hW]; exact ck _ c0
  have b1 : W.cell? ⟨b, 1, none⟩ = some (clo 26 bk) := by rw [← hW]; exact ck _ c1
  have b2 : W.cell? ⟨b, 2, none⟩ = some (clo 27 bm) := by rw [← hW]; exact ck _ c2
  have e0 : W.cell? ⟨bs, 0, none⟩ = some (.string s) := by rw [← hW]; exact ck _ d0
  have e1 : W.cell? ⟨bk, 0, none⟩ = some (.bool k) := by rw [← hW]; exact ck _ d1
  have e2 : W.cell? ⟨bm, 0, none⟩ = some (.int .i64 m) := by rw [← hW]; exact ck _ d2
  have p19 : W.cell? ⟨w.heap.size, 19, none⟩ = some (.bool false) := by rw [← hW, World.cell?_alloc_at _ _ _ _ rfl]; exact HA.out.1
  have p20 : W.cell? ⟨w.heap.size, 20, none⟩ = some (.int .i64 1) := by rw [← hW, World.cell?_alloc_at _ _ _ _ rfl]; exact HA.out.2.1
  have p21 : W.cell? ⟨w.heap.size, 21, none⟩ = some (.slice none 0 0) := by rw [← hW, World.cell?_alloc_at _ _ _ _ rfl]; exact HA.out.2.2.1
  have p23 : W.cell? ⟨w.heap.size, 23, none⟩ = some (.int .i64 0) := by rw [← hW, World.cell?_alloc_at _ _ _ _ rfl]; exact HA.out.2.2.2
  have z19 : W.frozen? ⟨w.heap.size, 19, none⟩ = false := by rw [← hW]; simp [go_sem]
  have z21 : W.frozen? ⟨w.heap.size, 21, none⟩ = false := by rw [← hW]; simp [go_sem]
  have z23 : W.frozen? ⟨w.heap.size, 23, none⟩ = false := by rw [← hW]; simp [go_sem]
  have hsz : w.heap.size < W.heap.size := by rw [← hW]; simp
  have hbl : Below w.heap.size w W := by rw [← hW]; exact (Below.refl _ _).alloc (Nat.le_refl _) _
  clear hW c0 c1 c2 d0 d1 d2 HB HA
  have lb := cell_lt b0
  have ls := cell_lt e0
  have lk := cell_lt e1
  have lm := cell_lt e2
  unfold clo at b0 b1 b2
  have kc := fun W => run_bytes_of_string (P := Try.prog) W 9 41 5 s Try.underlying9 Try.underlying41 Try.underlying5
  refine wp_loop_rounds 4 ?_
  rw [rounds_succ]
  go_wp2_with go_in
  rw [rounds_succ]
  go_wp2_with go_in
  rw [rounds_succ]
  go_wp2_with go_in
  rw [rounds_succ]
  go_wp2
  go_ret
  refine ⟨rfl, ⟨W.heap.size, grownCap W s.size 0 5, ?_, ?_, ?_, ?_, ?_, ?_, ?_⟩, ?_⟩
  · simp [go_sem, *]
  · simp [go_sem, *]
  · simp [go_sem, *]
  · simp [go_sem, *]
  · intro j h
    simp [go_sem]
    exact cell_mark _ _ _ (by simp) _ _ _ _ (row_at _ _ _ h)
  · simp; omega
  · simp
  · refine below_drew (Below.alloc (Below.setCell (Below.setCell (Below.setCell hbl ?_ _) ?_ _) ?_ _) ?_ _)
    all_goals simp
    all_goals omega
set_option maxHeartbeats 2000000 in
set_option maxRecDepth 1000000 in
theorem np2 (s : ByteArray) (k : Bool) (m : Int) (b bs bk bm : Nat) (w : World) (c2 : w.cell? ⟨b, 2, none⟩ = some (clo 25 bs)) (c1 : w.cell? ⟨b, 1, none⟩ = some (clo 26 bk)) (c0 : w.cell? ⟨b, 0, none⟩ = some (clo 27 bm))
    (d0 : w.cell? ⟨bs, 0, none⟩ = some (.string s)) (d1 : w.cell? ⟨bk, 0, none⟩ = some (.bool k)) (d2 : w.cell? ⟨bm, 0, none⟩ = some (.int .i64 m)) :
    Calls Try.prog 14 #[.slice (some ⟨b, 0, none⟩) 3 3] w fun e w' => e = .returned (.pointer (some ⟨w.heap.size, 0, none⟩)) ∧ PAt w.heap.size s k m w' ∧ Below w.heap.size w w' := by
  have HB := Lib.hid builtLang
  have a19 := lang19
  have a20 := lang20
  have a21 := lang21
  have a23 := lang23
  generalize langCells = A at HB a19 a20 a21 a23
  have HA := Lib.hid (And.intro a19 (And.intro a20 (And.intro a21 a23)))
  clear a19 a20 a21 a23
  go_enter Try.func14, Try.ntmps14
  iterate 11 go_step
  refine wpList_build_at rfl 68 _ rfl [(19, .int .i64 1)] (by simp [go_sem]) A HB.out ?_
  go_wp2
  generalize hW : World.alloc _ _ = W
  have b0 : W.cell? ⟨b, 2, none⟩ = some (clo 25 bs) := by rw [← hW]; exact ck _ c2
  have b1 : W.cell? ⟨b, 1, none⟩ = some (clo 26 bk) := by rw [← hW]; exact ck _ c1
  have b2 : W.cell? ⟨b, 0, none⟩ = some (clo 27 bm) := by rw [← hW]; exact ck _ c0
  have e0 : W.cell? ⟨bs, 0, none⟩ = some (.string s) := by rw [← hW]; exact ck _ d0
  have e1 : W.cell? ⟨bk, 0, none⟩ = some (.bool k) := by rw [← hW]; exact ck _ d1
  have e2 : W.cell? ⟨bm, 0, none⟩ = some (.int .i64 m) := by rw [← hW]; exact ck _ d2
  have p19 : W.cell? ⟨w.heap.size, 19, none⟩ = some (.bool false) := by rw [← hW, World.cell?_alloc_at _ _ _ _ rfl]; exact HA.out.1
  have p20 : W.cell? ⟨w.heap.size, 20, none⟩ = some (.int .i64 1) := by rw [← hW, World.cell?_alloc_at _ _ _ _ rfl]; exact HA.out.2.1
  have p21 : W.cell? ⟨w.heap.size, 21, none⟩ = some (.slice none 0 0) := by rw [← hW, World.cell?_alloc_at _ _ _ _ rfl]; exact HA.out.2.2.1
  have p23 : W.cell? ⟨w.heap.size, 23, none⟩ = some (.int .i64 0) := by rw [← hW, World.cell?_alloc_at _ _ _ _ rfl]; exact HA.out.2.2.2
  have z19 : W.frozen? ⟨w.heap.size, 19, none⟩ = false := by rw [← hW]; simp [go_sem]
  have z21 : W.frozen? ⟨w.heap.size, 21, none⟩ = false := by rw [← hW]; simp [go_sem]
  have z23 : W.frozen? ⟨w.heap.size, 23, none⟩ = false := by rw [← hW]; simp [go_sem]
  have hsz : w.heap.size < W.heap.size := by rw [← hW]; simp
  have hbl : Below w.heap.size w W := by rw [← hW]; exact (Below.refl _ _).alloc (Nat.le_refl _) _
  clear hW c0 c1 c2 d0 d1 d2 HB HA
  have lb := cell_lt b0
  have ls := cell_lt e0
  have lk := cell_lt e1
  have lm := cell_lt e2
  unfold clo at b0 b1 b2
  have kc := fun W => run_bytes_of_string (P := Try.prog) W 9 41 5 s Try.underlying9 Try.underlying41 Try.underlying5
  refine wp_loop_rounds 4 ?_
  rw [rounds_succ]
  go_wp2_with go_in
  rw [rounds_succ]
  go_wp2_with go_in
  rw [rounds_succ]
  go_wp2_with go_in
  rw [rounds_succ]
  go_wp2
  go_ret
  refine ⟨rfl, ⟨W.heap.size, grownCap ((W.setCell ⟨w.heap.size, 23, none⟩ (.int .i64 m)).setCell ⟨w.heap.size, 19, none⟩ (.bool k)) s.size 0 5, ?_, ?_, ?_, ?_, ?_, ?_, ?_⟩, ?_⟩
  · simp [go_sem, *]
  · simp [go_sem, *]
  · simp [go_sem, *]
  · simp [go_sem, *]
  · intro j h
    simp [go_sem]
    exact cell_mark _ _ _ (by simp) _ _ _ _ (row_at _ _ _ h)
  · simp; omega
  · simp
  · refine below_drew (Below.alloc (Below.setCell (Below.setCell (Below.setCell hbl ?_ _) ?_ _) ?_ _) ?_ _)
    all_goals simp
    all_goals omega
end Go.Proofs.Ytjhnnfbnfgaheaa.stops
