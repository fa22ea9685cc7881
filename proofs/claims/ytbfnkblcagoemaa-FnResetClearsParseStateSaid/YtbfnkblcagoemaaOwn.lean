/-
  Small lemmas on cells, new blocks and byte rows that this claim's walks share. No condition on the program.
-/
import Derived.WalkKit
import Derived.ProofKit
import Derived.OpenShut
import Derived.Handy
import Derived.Below
import Derived.Laws.IdiomStrings
import Derived.Laws.BytesArg
import Derived.Deep.RegionHeld
import Derived.Lib.Hide
import Derived.OwnWalk
import Derived.Laws.OwnMore
namespace Go.Proofs.Ytbfnkblcagoemaa.own
open Go.RowKit

theorem ret_int {k : IntKind} {a b : Int} (h : a = b) : Ending.returned (.int k a) = .returned (.int k b) := by rw [h]
theorem ret_bool {a b : Bool} (h : a = b) : Ending.returned (.bool a) = .returned (.bool b) := by rw [h]
theorem ret_string {a b : ByteArray} (h : a = b) : Ending.returned (.string a) = .returned (.string b) := by rw [h]
theorem wf_u64 {x : Int} (h : (Lit.int .u64 x).wf = true) : 0 ≤ x ∧ x ≤ 18446744073709551615 := by
  simpa [Lit.wf, IntKind.min, IntKind.max, IntKind.signed, IntKind.bits] using h
theorem wf_u32 {x : Int} (h : (Lit.int .u32 x).wf = true) : 0 ≤ x ∧ x ≤ 4294967295 := by
  simpa [Lit.wf, IntKind.min, IntKind.max, IntKind.signed, IntKind.bits] using h
theorem wf_i64 {x : Int} (h : (Lit.int .i64 x).wf = true) : -9223372036854775808 ≤ x ∧ x ≤ 9223372036854775807 := by
  simpa [Lit.wf, IntKind.min, IntKind.max, IntKind.signed, IntKind.bits] using h
theorem wf_i32 {x : Int} (h : (Lit.int .i32 x).wf = true) : -2147483648 ≤ x ∧ x ≤ 2147483647 := by
  simpa [Lit.wf, IntKind.min, IntKind.max, IntKind.signed, IntKind.bits] using h
theorem wf_u8 {x : Int} (h : (Lit.int .u8 x).wf = true) : 0 ≤ x ∧ x ≤ 255 := by
  simpa [Lit.wf, IntKind.min, IntKind.max, IntKind.signed, IntKind.bits] using h

/-- a known cell stays known behind a new block, behind a draw -/
theorem ck {w : World} {a : Addr} {v : Value} (o : Obj) (h : w.cell? a = some v) : (w.alloc o).cell? a = some v := by
  rw [World.cell?_alloc_some w a o (by rw [h]; rfl), h]
theorem cd {w : World} {a : Addr} {v : Value} (h : w.cell? a = some v) : w.drew.cell? a = some v := h
theorem cb {w w' : World} {B : Nat} {a : Addr} {v : Value} (hb : Below B w w') (hB : a.block < B) (h : w.cell? a = some v) : w'.cell? a = some v := (hb.cell hB).trans h
theorem cell_lt {w : World} {a : Addr} {v : Value} (h : w.cell? a = some v) : a.block < w.heap.size := World.block_lt_of_cell? w a h

/-- the cells of a list of bytes -/
def bytesV (l : List UInt8) : List Value := l.map fun c => .int .u8 (c.toNat : Int)
theorem bytesV_nil : bytesV [] = [] := rfl
theorem bytesV_length (l : List UInt8) : (bytesV l).length = l.length := by simp [bytesV]
theorem bytesV_append (l r : List UInt8) : bytesV (l ++ r) = bytesV l ++ bytesV r := by simp [bytesV]
theorem bytesV_one (c : UInt8) : bytesV [c] = [.int .u8 (c.toNat : Int)] := rfl
theorem bytesV_get (l : List UInt8) (j : Nat) (h : j < l.length) : (bytesV l)[j]? = some (.int .u8 (l[j].toNat : Int)) := by
  simp [bytesV, List.getElem?_eq_getElem h]

/-- string(b) where b is an owned row of bytes -/
theorem conv_own {P : Program} {w : World} {base e : Nat} {v : Value} {n : Nat} {l : List UInt8} (src dst : TypeId) (hs : P.underlying src = some (.slice e)) (he : P.underlying e = some (.int .u8)) (hd : P.underlying dst = some .string)
    (h : w.ownsRow base e 1 v n (bytesV l)) : (convert src dst v).run P w = .ok (.string ⟨l.toArray⟩) w := by
  have hn : l.length = n := by have := h.1; rw [bytesV_length] at this; omega
  rcases h.2 with ⟨rfl, h0⟩ | ⟨g, cap, cur, rfl, _, hg, _, _, _, ht⟩
  · have hl : l = [] := List.eq_nil_of_length_eq_zero (by omega)
    subst hl
    exact run_convert_bytes_nil w src e hs he 0 0 dst hd
  · subst hn
    refine run_convert_bytes_back w src dst e ⟨g, 0, none⟩ cap l hs he hd fun j hj => ?_
    exact World.ownsRow.cells h (g := g) rfl j _ (bytesV_get l j hj)

/-- the one new cell that an append of one element reads -/
theorem one_new {w : World} {x : Value} {t : TypeId} : ∀ (j : Nat) (u : Value), [x][j]? = some u → (w.alloc (.cells #[x] t)).cell? ((⟨w.heap.size, 0, none⟩ : Addr).add j) = some u := by
  intro j u hj
  match j, hj with
  | 0, hj => simp at hj; subst hj; simp [Addr.add]
theorem own_row_ge {w : World} {base e size : Nat} {v : Value} {n : Nat} {xs : List Value} (h : w.ownsRow base e size v n xs) : ∀ k, v.ownBlock = some k → base ≤ k := fun k hk => (h.lt k hk).1

theorem own_form {w : World} {base e size : Nat} {v : Value} {n : Nat} {xs : List Value} (h : w.ownsRow base e size v n xs) (hn : 0 < n) : ∃ g cap, v = .slice (some ⟨g, 0, none⟩) n cap ∧ base ≤ g ∧ g < w.heap.size := by
  rcases h.2 with ⟨_, h0⟩ | ⟨g, cap, cur, hv, hb, hg, _⟩
  · omega
  · exact ⟨g, cap, hv, hb, (Array.getElem?_eq_some_iff.1 hg).1⟩

/-! ### a row that a call makes and fills from the left -/
theorem made_list (z : Value) (n : Nat) : (madeCells #[z] n).toList = List.replicate n z := by
  apply List.ext_getElem
  · simp [madeCells]
  · intro i h1 h2
    simp [madeCells, Nat.mod_one]
def fillL (vs : List Value) (z : Value) (k : Nat) : List Value := vs.take k ++ List.replicate (vs.length - k) z
theorem fillL_zero (vs : List Value) (z : Value) : fillL vs z 0 = List.replicate vs.length z := by simp [fillL]
theorem fillL_done (vs : List Value) (z : Value) : fillL vs z vs.length = vs := by simp [fillL]
theorem fillL_at (vs : List Value) (z : Value) (k : Nat) (h : k < vs.length) : (fillL vs z k)[k]? = some z := by
  unfold fillL
  rw [List.getElem?_append_right (by rw [List.length_take]; omega), List.length_take]
  rw [show k - min k vs.length = 0 by omega]
  rw [List.getElem?_replicate, if_pos (by omega)]
theorem fillL_step (vs : List Value) (z : Value) (k : Nat) (u : Value) (h : vs[k]? = some u) : (fillL vs z k).set k u = fillL vs z (k + 1) := by
  obtain ⟨hk, hu⟩ := List.getElem?_eq_some_iff.1 h
  unfold fillL
  rw [List.set_append_right _ _ (by rw [List.length_take]; omega), List.length_take, show k - min k vs.length = 0 by omega]
  rw [show vs.length - k = (vs.length - (k + 1)) + 1 by omega, List.replicate_succ, List.set_cons_zero, List.take_succ_eq_append_getElem hk, hu]
  simp
/-- block g holds, in a row of its own of n cells, the first k of vs and z behind them -/
def Filling (g B : Nat) (e : TypeId) (vs : List Value) (z : Value) (w : World) (k : Nat) (wr : World) : Prop :=
  wr.ownsRow g e 1 (.slice (some ⟨g, 0, none⟩) vs.length vs.length) vs.length (fillL vs z k) ∧ Below B w wr ∧ B ≤ wr.heap.size
theorem Filling.cell {g B : Nat} {e : TypeId} {vs : List Value} {z : Value} {w : World} {k : Nat} {wr : World} (h : Filling g B e vs z w k wr) (hk : k < vs.length) : wr.cell? ⟨g, k, none⟩ = some z := by
  rw [h.1.cellAt k (by omega)]; exact fillL_at vs z k hk
theorem Filling.free {g B : Nat} {e : TypeId} {vs : List Value} {z : Value} {w : World} {k : Nat} {wr : World} (h : Filling g B e vs z w k wr) : wr.frozen? ⟨g, k, none⟩ = false := h.1.frozenAt k
theorem Filling.store {g B : Nat} {e : TypeId} {vs : List Value} {z : Value} {w : World} {k : Nat} {wr : World} (h : Filling g B e vs z w k wr) (hg : B ≤ g) (u : Value) (hu : vs[k]? = some u) : Filling g B e vs z w (k + 1) (wr.setCell ⟨g, k, none⟩ u) := by
  have hs := h.1.stored k u
  refine ⟨?_, h.2.1.setCell (by exact hg) u, by have := hs.2.size; have := h.2.2; omega⟩
  rw [← fillL_step vs z k u hu]
  exact hs.1
theorem Filling.done {g B : Nat} {e : TypeId} {vs : List Value} {z : Value} {w : World} {wr : World} (h : Filling g B e vs z w vs.length wr) :
    wr.ownsRow g e 1 (.slice (some ⟨g, 0, none⟩) vs.length vs.length) vs.length vs := by
  have := h.1; rw [fillL_done] at this; exact this
theorem Filling.start {g B : Nat} {e : TypeId} {vs : List Value} {z : Value} {w w0 w1 : World} {n : Nat} (hn : vs.length = n) (hb : Below B w w0) (hB : B ≤ w0.heap.size)
    (ho : w1.ownsRow g e 1 (.slice (some ⟨g, 0, none⟩) n n) n (madeCells #[z] n).toList) (hg : w0.grownBy w1 none) : Filling g B e vs z w 0 w1 := by
  subst hn
  refine ⟨?_, hb.grown hg hB (fun k h => by cases h), Nat.le_trans hB hg.size⟩
  rw [fillL_zero, ← made_list z vs.length]
  exact ho

/-! ### the cells of a row of integers, bools or strings, by index -/
def intsV (k : IntKind) (f : Nat → Int) (n : Nat) : List Value := (List.range n).map fun i => .int k (f i)
theorem intsV_length (k : IntKind) (f : Nat → Int) (n : Nat) : (intsV k f n).length = n := by simp [intsV]
theorem intsV_get (k : IntKind) (f : Nat → Int) (n j : Nat) (h : j < n) : (intsV k f n)[j]? = some (.int k (f j)) := by simp [intsV, h]
def strsV (f : Nat → ByteArray) (n : Nat) : List Value := (List.range n).map fun i => .string (f i)
theorem strsV_length (f : Nat → ByteArray) (n : Nat) : (strsV f n).length = n := by simp [strsV]
theorem strsV_get (f : Nat → ByteArray) (n j : Nat) (h : j < n) : (strsV f n)[j]? = some (.string (f j)) := by simp [strsV, h]
def boolsV (f : Nat → Bool) (n : Nat) : List Value := (List.range n).map fun i => .bool (f i)
theorem boolsV_length (f : Nat → Bool) (n : Nat) : (boolsV f n).length = n := by simp [boolsV]
theorem boolsV_get (f : Nat → Bool) (n j : Nat) (h : j < n) : (boolsV f n)[j]? = some (.bool (f j)) := by simp [boolsV, h]
end Go.Proofs.Ytbfnkblcagoemaa.own
