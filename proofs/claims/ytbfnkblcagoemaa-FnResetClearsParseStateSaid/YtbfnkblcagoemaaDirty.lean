/-
  The dirty state as a Lean structure, and what zzBytes and zzDirtyTooBig say of it. Conditions: as each contract states.
-/
import Derived.Test.YtbfnkblcagoemaaPos
import Derived.Laws.Rows
namespace Go.Proofs.Ytbfnkblcagoemaa.dirty
open Go.ChangeShapes Go.WideShapes Go.ChangeAt Go.RowKit Go.Proofs.Ytbfnkblcagoemaa.own
set_option linter.unusedVariables false
/-- a slice's three parts -/
structure SL where
  a : Option Addr
  n : Nat
  c : Nat
def SL.v (s : SL) : Value := .slice s.a s.n s.c
/-- the fields of a dirty state -/
structure DS where
  tok : Int
  val : ByteArray
  eql : Int
  bs : SL
  bsp : Int
  offs : Int
  line : Int
  col : Int
  r : Int
  wd : Int
  errSet : Bool
  readErrSet : Bool
  readEOF : Bool
  quote : Int
  forbid : Bool
  openN : Int
  recov : Int
  hdNil : Bool
  nH : Int
  buried : Int
  hs : SL
  parsing : Bool
  oB : Int
  oBD : Int
  nC : Int
  nL : Int
  nW : Int
  lit : SL
  spaced : Bool
  lastB : Int
  rxO : Int
  rxF : Bool
def DS.arr (d : DS) : Array Value := #[.int .u32 d.tok, .string d.val, .int .i64 d.eql, d.bs.v, .int .u64 d.bsp, .int .i64 d.offs, .int .i64 d.line, .int .i64 d.col, .int .i32 d.r, .int .i64 d.wd,
  .bool d.errSet, .bool d.readErrSet, .bool d.readEOF, .int .u32 d.quote, .bool d.forbid, .int .i64 d.openN, .int .i64 d.recov, .bool d.hdNil, .int .i64 d.nH, .int .i64 d.buried,
  d.hs.v, .bool d.parsing, .int .i64 d.oB, .int .i64 d.oBD, .int .i64 d.nC, .int .i64 d.nL, .int .i64 d.nW, d.lit.v, .bool d.spaced, .int .i64 d.lastB, .int .i64 d.rxO, .bool d.rxF]
/-- block g holds the state -/
def Holds (g : Nat) (d : DS) (w : World) : Prop := w.heap[g]? = some (.cells d.arr 27 (0, 0))
theorem Holds.cell {g : Nat} {d : DS} {w : World} (h : Holds g d w) (j : Nat) : w.cell? ⟨g, j, none⟩ = d.arr[j]? := cell_of_row w g j _ _ _ h
theorem Holds.new (d : DS) (w : World) : Holds w.heap.size d (w.alloc (.cells d.arr 27)) := heap_alloc_new w _
theorem Holds.below {g : Nat} {d : DS} {w w' : World} (h : Holds g d w) {B : Nat} (hb : Below B w w') (hg : g < B) : Holds g d w' := (hb.block g hg).trans h
theorem Holds.lt {g : Nat} {d : DS} {w : World} (h : Holds g d w) : g < w.heap.size := (Array.getElem?_eq_some_iff.1 h).1
/-- a slice of slices of bytes: the parts of each of them -/
def HR (w : World) (h : SL) (s : Nat → SL) : Prop := h.n = 0 ∨ ∃ b off, h.a = some ⟨b, off, none⟩ ∧ ∀ i, i < h.n → w.cell? ⟨b, off + i, none⟩ = some (.slice (s i).a (s i).n (s i).c)
theorem HR.below {w w' : World} {h : SL} {s : Nat → SL} (H : HR w h s) {B : Nat} (hb : Below B w w') (hB : w.heap.size ≤ B) : HR w' h s := by
  rcases H with H | ⟨b, off, ha, hc⟩
  · exact .inl H
  · exact .inr ⟨b, off, ha, fun i hi => cb hb (Nat.lt_of_lt_of_le (cell_lt (hc i hi)) hB) (hc i hi)⟩
def Big (d : DS) (s : Nat → SL) (st : SL) : Prop := d.val.size ≤ 1048576 ∧ d.bs.n ≤ 1048576 ∧ d.hs.n ≤ 1048576 ∧ d.lit.n ≤ 1048576 ∧ st.n ≤ 1048576 ∧ ∀ i, i < d.hs.n → (s i).n ≤ 1048576
def Ans (p : Prop) (x : Bool) (w : World) (e : Ending) (w' : World) : Prop := ∃ b, (b = x → p) ∧ e = .returned (.bool b) ∧ Below w.heap.size w w'
set_option maxHeartbeats 4000000 in
theorem bytes_any (d : DS) (kc : Bool) (la rm : Int) (st : SL) (s : Nat → SL) (w : World) (h0 : d.val.size ≤ maxLen) (h1 : d.bs.n ≤ maxLen) (h2 : d.hs.n ≤ maxLen) (h3 : d.lit.n ≤ maxLen) (h4 : st.n ≤ maxLen)
    (hs : ∀ i, i < d.hs.n → (s i).n ≤ maxLen) (h : HR w d.hs s) :
    Calls Try.prog 9 #[.agg d.arr, .bool kc, .int .i64 la, .int .i64 rm, .slice st.a st.n st.c] w (Ans (Big d s st) true w) := by
  unfold maxLen at *
  have HS := Lib.hid hs
  have HH := Lib.hid h
  clear h hs
  go_enter Try.func9, Try.ntmps9
  generalize hA : DS.arr d = A
  iterate 7 go_step
  generalize hW : World.alloc _ _ = W
  have hb : Below w.heap.size w W := by rw [← hW]; exact (Below.refl _ _).alloc (Nat.le_refl _) _
  have hd : Holds w.heap.size d W := by rw [← hW, ← hA]; exact Holds.new d w
  have HH2 := Lib.hid (HH.out.below hb (Nat.le_refl _))
  have c1 : W.cell? ⟨w.heap.size, 1, none⟩ = some (.string d.val) := hd.cell 1
  have c3 : W.cell? ⟨w.heap.size, 3, none⟩ = some (.slice d.bs.a d.bs.n d.bs.c) := hd.cell 3
  have c20 : W.cell? ⟨w.heap.size, 20, none⟩ = some (.slice d.hs.a d.hs.n d.hs.c) := hd.cell 20
  have c27 : W.cell? ⟨w.heap.size, 27, none⟩ = some (.slice d.lit.a d.lit.n d.lit.c) := hd.cell 27
  have HB := Lib.hid hb
  clear hW hA hb hd HH
  go_wp2
  all_goals (try (go_ret; exact ⟨_, (fun h => by cases h), rfl, HB.out⟩))
  go_loop [11, 12] (fun z i => ∃ (t : Int) (k : Nat), 0 ≤ t ∧ t ≤ 1048576 ∧ k ≤ d.hs.n ∧ Hid (∀ j, j < k → (s j).n ≤ 1048576) ∧ z = .int .i64 t ∧ i = .int .i64 k) (fun _ i => d.hs.n - (intOf i).toNat)
  case atStart => exact ⟨_, 0, by omega, by omega, by omega, Lib.hid (fun j hj => by omega), rfl, rfl⟩
  case round =>
    obtain ⟨t, k, ht0, ht1, hk, HK, rfl, rfl⟩ := hrel
    by_cases hlt : k < d.hs.n
    · rcases HH2.out with h0 | ⟨b, off, he, hc⟩
      · omega
      · have c5 := hc k hlt
        have m5 := HS.out k hlt
        clear hc HH2
        go_wp2
        all_goals (try (go_ret; exact ⟨_, (fun h => by cases h), rfl, HB.out⟩))
        go_round
        case rel => exact ⟨_, k + 1, by omega, by omega, by omega, Lib.hid (fun j hj => by
          by_cases hjk : j < k
          · exact HK.out j hjk
          · obtain rfl : j = k := by omega
            omega), rfl, by go_num⟩
        case measure => simp [intOf]; omega
    · obtain rfl : k = d.hs.n := by omega
      go_wp2
      all_goals (try (go_ret; exact ⟨false, (fun h => Bool.noConfusion h), rfl, HB.out⟩))
      go_ret
      exact ⟨true, (fun h => ⟨by omega, by omega, by omega, by omega, by omega, HK.out⟩), rfl, HB.out⟩
def Small (d : DS) : Prop := (0 ≤ d.nH ∧ d.nH ≤ 4096) ∧ (0 ≤ d.nC ∧ d.nC ≤ 4096) ∧ (0 ≤ d.nL ∧ d.nL ≤ 4096) ∧ (0 ≤ d.nW ∧ d.nW ≤ 4096)
set_option maxHeartbeats 4000000 in
theorem tooBig_any (d : DS) (st : SL) (s : Nat → SL) (w : World) (hbig : Big d s st) (h : HR w d.hs s) :
    Calls Try.prog 10 #[.agg d.arr, .slice st.a st.n st.c] w (Ans (Small d) false w) := by
  obtain ⟨h0, h1, h2, h3, h4, hs⟩ := hbig
  have HS := Lib.hid hs
  have HH := Lib.hid h
  have b0 : decide (1048576 < (d.val.size : Int)) = false := by simp; omega
  have b1 : decide (1048576 < (d.bs.n : Int)) = false := by simp; omega
  have b3 : decide (1048576 < (d.lit.n : Int)) = false := by simp; omega
  have b4 : decide (1048576 < (st.n : Int)) = false := by simp; omega
  clear h hs
  by_cases k1 : 131072 < d.hs.n
  · have b5 : decide (131072 < (d.hs.n : Int)) = true := by simp; omega
    go_enter Try.func10, Try.ntmps10
    generalize hA : DS.arr d = A
    iterate 7 go_step
    generalize hW : World.alloc _ _ = W
    have hb : Below w.heap.size w W := by rw [← hW]; exact (Below.refl _ _).alloc (Nat.le_refl _) _
    have hd : Holds w.heap.size d W := by rw [← hW, ← hA]; exact Holds.new d w
    have c1 : W.cell? ⟨w.heap.size, 1, none⟩ = some (.string d.val) := hd.cell 1
    have c3 : W.cell? ⟨w.heap.size, 3, none⟩ = some (.slice d.bs.a d.bs.n d.bs.c) := hd.cell 3
    have c20 : W.cell? ⟨w.heap.size, 20, none⟩ = some (.slice d.hs.a d.hs.n d.hs.c) := hd.cell 20
    have c27 : W.cell? ⟨w.heap.size, 27, none⟩ = some (.slice d.lit.a d.lit.n d.lit.c) := hd.cell 27
    have HB := Lib.hid hb
    clear hW hA hb hd HH
    go_wp2
    go_ret
    exact ⟨true, (fun h => Bool.noConfusion h), rfl, HB.out⟩
  have b5 : decide (131072 < (d.hs.n : Int)) = false := by simp; omega
  go_enter Try.func10, Try.ntmps10
  generalize hA : DS.arr d = A
  iterate 7 go_step
  generalize hW : World.alloc _ _ = W
  have hb : Below w.heap.size w W := by rw [← hW]; exact (Below.refl _ _).alloc (Nat.le_refl _) _
  have hd : Holds w.heap.size d W := by rw [← hW, ← hA]; exact Holds.new d w
  have HH2 := Lib.hid (HH.out.below hb (Nat.le_refl _))
  have c1 : W.cell? ⟨w.heap.size, 1, none⟩ = some (.string d.val) := hd.cell 1
  have c3 : W.cell? ⟨w.heap.size, 3, none⟩ = some (.slice d.bs.a d.bs.n d.bs.c) := hd.cell 3
  have c20 : W.cell? ⟨w.heap.size, 20, none⟩ = some (.slice d.hs.a d.hs.n d.hs.c) := hd.cell 20
  have c27 : W.cell? ⟨w.heap.size, 27, none⟩ = some (.slice d.lit.a d.lit.n d.lit.c) := hd.cell 27
  have c18 : W.cell? ⟨w.heap.size, 18, none⟩ = some (.int .i64 d.nH) := hd.cell 18
  have c24 : W.cell? ⟨w.heap.size, 24, none⟩ = some (.int .i64 d.nC) := hd.cell 24
  have c25 : W.cell? ⟨w.heap.size, 25, none⟩ = some (.int .i64 d.nL) := hd.cell 25
  have c26 : W.cell? ⟨w.heap.size, 26, none⟩ = some (.int .i64 d.nW) := hd.cell 26
  have HB := Lib.hid hb
  clear hW hA hb hd HH
  go_wp2
  all_goals (try (go_ret; exact ⟨true, (fun h => Bool.noConfusion h), rfl, HB.out⟩))
  go_loop [5, 6] (fun z i => ∃ (t : Int) (k : Nat), 0 ≤ t ∧ t ≤ 1048576 ∧ k ≤ d.hs.n ∧ z = .int .i64 t ∧ i = .int .i64 k) (fun _ i => d.hs.n - (intOf i).toNat)
  case atStart => exact ⟨_, 0, by omega, by omega, by omega, rfl, rfl⟩
  case round =>
    obtain ⟨t, k, ht0, ht1, hk, rfl, rfl⟩ := hrel
    by_cases hlt : k < d.hs.n
    · rcases HH2.out with h0 | ⟨b, off, he, hc⟩
      · omega
      · have c5 := hc k hlt
        have m5 := HS.out k hlt
        clear hc HH2
        go_wp2
        all_goals (try (go_ret; exact ⟨true, (fun h => Bool.noConfusion h), rfl, HB.out⟩))
        go_round
        case rel => exact ⟨_, k + 1, by omega, by omega, by omega, rfl, by go_num⟩
        case measure => simp [intOf]; omega
    · obtain rfl : k = d.hs.n := by omega
      by_cases q1 : d.nH < 0
      · go_wp2
        go_ret
        exact ⟨true, (fun h => Bool.noConfusion h), rfl, HB.out⟩
      by_cases q2 : 4096 < d.nH
      · go_wp2
        go_ret
        exact ⟨true, (fun h => Bool.noConfusion h), rfl, HB.out⟩
      by_cases q3 : d.nC < 0
      · go_wp2
        go_ret
        exact ⟨true, (fun h => Bool.noConfusion h), rfl, HB.out⟩
      by_cases q4 : 4096 < d.nC
      · go_wp2
        go_ret
        exact ⟨true, (fun h => Bool.noConfusion h), rfl, HB.out⟩
      by_cases q5 : d.nL < 0
      · go_wp2
        go_ret
        exact ⟨true, (fun h => Bool.noConfusion h), rfl, HB.out⟩
      by_cases q6 : 4096 < d.nL
      · go_wp2
        go_ret
        exact ⟨true, (fun h => Bool.noConfusion h), rfl, HB.out⟩
      by_cases q7 : d.nW < 0
      · go_wp2
        go_ret
        exact ⟨true, (fun h => Bool.noConfusion h), rfl, HB.out⟩
      by_cases q8 : 4096 < d.nW
      · go_wp2
        go_ret
        exact ⟨true, (fun h => Bool.noConfusion h), rfl, HB.out⟩
      go_wp2
      go_ret
      exact ⟨false, (fun h => ⟨⟨by omega, by omega⟩, ⟨by omega, by omega⟩, ⟨by omega, by omega⟩, ⟨by omega, by omega⟩⟩), rfl, HB.out⟩
end Go.Proofs.Ytbfnkblcagoemaa.dirty
