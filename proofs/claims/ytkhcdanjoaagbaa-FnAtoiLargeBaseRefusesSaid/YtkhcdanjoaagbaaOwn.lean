/-
  Small lemmas on cells, new blocks and byte rows that this claim's walks share. No condition on the program.
-/
import Derived.WalkKit
import Derived.ProofKit
import Derived.OpenShut
import Derived.Handy
import Derived.Below
import Derived.Laws.IdiomStrings
import Derived.Laws.BytesArg
import Derived.Deep.RegionHeld
import Derived.Lib.Hide
namespace Go.Proofs.Ytkhcdanjoaagbaa.own
open Go.RowKit

theorem ret_int {k : IntKind} {a b : Int} (h : a = b) : Ending.returned (.int k a) = .returned (.int k b) := by rw [h]
theorem ret_bool {a b : Bool} (h : a = b) : Ending.returned (.bool a) = .returned (.bool b) := by rw [h]
theorem ret_string {a b : ByteArray} (h : a = b) : Ending.returned (.string a) = .returned (.string b) := by rw [h]
theorem wf_u64 {x : Int} (h : (Lit.int .u64 x).wf = true) : 0 ≤ x ∧ x ≤ 18446744073709551615 := by
  simpa [Lit.wf, IntKind.min, IntKind.max, IntKind.signed, IntKind.bits] using h
theorem wf_u32 {x : Int} (h : (Lit.int .u32 x).wf = true) : 0 ≤ x ∧ x ≤ 4294967295 := by
  simpa [Lit.wf, IntKind.min, IntKind.max, IntKind.signed, IntKind.bits] using h
theorem wf_i64 {x : Int} (h : (Lit.int .i64 x).wf = true) : -9223372036854775808 ≤ x ∧ x ≤ 9223372036854775807 := by
  simpa [Lit.wf, IntKind.min, IntKind.max, IntKind.signed, IntKind.bits] using h
theorem wf_i32 {x : Int} (h : (Lit.int .i32 x).wf = true) : -2147483648 ≤ x ∧ x ≤ 2147483647 := by
  simpa [Lit.wf, IntKind.min, IntKind.max, IntKind.signed, IntKind.bits] using h
theorem wf_u8 {x : Int} (h : (Lit.int .u8 x).wf = true) : 0 ≤ x ∧ x ≤ 255 := by
  simpa [Lit.wf, IntKind.min, IntKind.max, IntKind.signed, IntKind.bits] using h

/-- a known cell stays known behind a new block, behind a draw -/
theorem ck {w : World} {a : Addr} {v : Value} (o : Obj) (h : w.cell? a = some v) : (w.alloc o).cell? a = some v := by
  rw [World.cell?_alloc_some w a o (by rw [h]; rfl), h]
theorem cd {w : World} {a : Addr} {v : Value} (h : w.cell? a = some v) : w.drew.cell? a = some v := h
theorem cb {w w' : World} {B : Nat} {a : Addr} {v : Value} (hb : Below B w w') (hB : a.block < B) (h : w.cell? a = some v) : w'.cell? a = some v := (hb.cell hB).trans h
theorem cell_lt {w : World} {a : Addr} {v : Value} (h : w.cell? a = some v) : a.block < w.heap.size := World.block_lt_of_cell? w a h

/-- the cells of a list of bytes -/
def bytesV (l : List UInt8) : List Value := l.map fun c => .int .u8 (c.toNat : Int)
theorem bytesV_nil : bytesV [] = [] := rfl
theorem bytesV_length (l : List UInt8) : (bytesV l).length = l.length := by simp [bytesV]
theorem bytesV_append (l r : List UInt8) : bytesV (l ++ r) = bytesV l ++ bytesV r := by simp [bytesV]
theorem bytesV_one (c : UInt8) : bytesV [c] = [.int .u8 (c.toNat : Int)] := rfl
theorem bytesV_get (l : List UInt8) (j : Nat) (h : j < l.length) : (bytesV l)[j]? = some (.int .u8 (l[j].toNat : Int)) := by
  simp [bytesV, List.getElem?_eq_getElem h]

/-- string(b) where b is an owned row of bytes -/
theorem conv_own {P : Program} {w : World} {base e : Nat} {v : Value} {n : Nat} {l : List UInt8} (src dst : TypeId) (hs : P.underlying src = some (.slice e)) (he : P.underlying e = some (.int .u8)) (hd : P.underlying dst = some .string)
    (h : w.ownsRow base e 1 v n (bytesV l)) : (convert src dst v).run P w = .ok (.string ⟨l.toArray⟩) w := by
  have hn : l.length = n := by have := h.1; rw [bytesV_length] at this; omega
  rcases h.2 with ⟨rfl, h0⟩ | ⟨g, cap, cur, rfl, _, hg, _, _, _, ht⟩
  · have hl : l = [] := List.eq_nil_of_length_eq_zero (by omega)
    subst hl
    exact run_convert_bytes_nil w src e hs he 0 0 dst hd
  · subst hn
    refine run_convert_bytes_back w src dst e ⟨g, 0, none⟩ cap l hs he hd fun j hj => ?_
    exact World.ownsRow.cells h (g := g) rfl j _ (bytesV_get l j hj)

/-- the one new cell that an append of one element reads -/
theorem one_new {w : World} {x : Value} {t : TypeId} : ∀ (j : Nat) (u : Value), [x][j]? = some u → (w.alloc (.cells #[x] t)).cell? ((⟨w.heap.size, 0, none⟩ : Addr).add j) = some u := by
  intro j u hj
  match j, hj with
  | 0, hj => simp at hj; subst hj; simp [Addr.add]
theorem own_row_ge {w : World} {base e size : Nat} {v : Value} {n : Nat} {xs : List Value} (h : w.ownsRow base e size v n xs) : ∀ k, v.ownBlock = some k → base ≤ k := fun k hk => (h.lt k hk).1
end Go.Proofs.Ytkhcdanjoaagbaa.own
