/-
  A dirty state that came in, opened field by field. No conditions.
-/
import Derived.Test.YtbfnkblcagoemaaWalk
import Derived.Deep.Fields
import Derived.OpenShut
namespace Go.Proofs.Ytbfnkblcagoemaa.dirty
open Go.ChangeShapes Go.WideShapes Go.ChangeAt Go.RowKit Go.Deep Go.Proofs.Ytbfnkblcagoemaa.own
set_option linter.unusedVariables false
section
variable {H : Type} {enc : TypeId × Value → H} {w : World} {base : Nat} {spare : Nat → Bool} {held : Bool}
theorem open_bytes {fuel : Nat} {cs : List Value} {x : DataW H × List MemPlace} (h : DataW.trod enc Try.prog w base spare held fuel 23 cs = some x) :
    ∃ (y : SL) (f : Nat → UInt8), cs = [.slice y.a y.n y.c] ∧ y.n ≤ maxLen ∧ BR w y f := by
  rcases open_ints Try.underlying23 Try.underlying5 (by kernel_rfl) h with ⟨hcs, _⟩ | ⟨a, len, cap, zs, hcs, _, hl, hm, hz, _, hcell, hwz⟩
  · exact ⟨⟨none, 0, 0⟩, fun _ => 0, hcs, Nat.zero_le _, .inl ⟨rfl, rfl, rfl⟩⟩
  · have hlz : len ≤ zs.length := by rw [hz]; split <;> omega
    refine ⟨⟨some a, len, cap⟩, fun i => UInt8.ofNat (zs.getD i 0).toNat, hcs, by show len ≤ maxLen; omega, .inr ⟨a, rfl, ?_⟩⟩
    by_cases h0 : len = 0
    · exact .inl h0
    · obtain ⟨b, off, rfl, hc⟩ := ints_at hcell (by omega)
      refine .inr ⟨b, off, rfl, fun i hi => ?_⟩
      have hi' : i < zs.length := Nat.lt_of_lt_of_le hi hlz
      have hb := bounds_u8 (hwz (zs.getD i 0) (by simp [List.getD, hi']))
      rw [hc i hi']
      have e : (((UInt8.ofNat (zs.getD i 0).toNat).toNat : Nat) : Int) = zs.getD i 0 := by
        simp only [UInt8.toNat_ofNat']
        omega
      rw [e]
instance : Inhabited SL := ⟨⟨none, 0, 0⟩⟩
theorem open_bytes2 {fuel : Nat} {cs : List Value} {x : DataW H × List MemPlace} (h : DataW.trod enc Try.prog w base spare held fuel 25 cs = some x) :
    ∃ (y : SL) (s : Nat → SL) (f : Nat → Nat → UInt8), cs = [.slice y.a y.n y.c] ∧ y.n ≤ maxLen ∧ (∀ i, i < y.n → (s i).n ≤ maxLen) ∧ NR w y s f := by
  rcases open_slice1 Try.underlying25 (by kernel_rfl) h with ⟨hcs, _⟩ | ⟨a, len, cap, m, n, V, D, Pl, hcs, _, hl, hm, hmm, _, hx⟩
  · exact ⟨⟨none, 0, 0⟩, fun _ => ⟨none, 0, 0⟩, fun _ _ => 0, hcs, Nat.zero_le _, fun i hi => absurd hi (Nat.not_lt_zero _), .inl ⟨rfl, rfl, rfl⟩⟩
  · have hlm : len ≤ m := by rw [hmm]; split <;> omega
    obtain ⟨g, hg⟩ := choose_lt (α := SL × (Nat → UInt8)) (n := len) (p := fun i q => V i = .slice q.1.a q.1.n q.1.c ∧ q.1.n ≤ maxLen ∧ BR w q.1 q.2) (fun i hi => by
      obtain ⟨y, f, hy, hn, hb⟩ := open_bytes (hx i (by omega)).2
      exact ⟨(y, f), by simpa using hy, hn, hb⟩)
    refine ⟨⟨some a, len, cap⟩, fun i => (g i).1, fun i => (g i).2, hcs, by show len ≤ maxLen; omega, fun i hi => (hg i hi).2.1, .inr ⟨a, rfl, ?_⟩⟩
    by_cases h0 : len = 0
    · exact .inl h0
    · have c0 := (hx 0 (by omega)).1
      obtain ⟨b, off, spot⟩ := a
      have hspot : spot = none := by simpa [Addr.add] using World.cell?_spot c0
      subst hspot
      refine .inr ⟨b, off, rfl, fun i hi => ⟨?_, (hg i hi).2.2⟩⟩
      have hi' : i < len := hi
      have := (hx i (by omega)).1
      rw [(hg i hi).1, add_plain] at this
      exact this
theorem list_getD (l : List Value) : l = (List.range l.length).map fun i => l.getD i undef := by
  have := map_by_index l undef id
  simpa using this
theorem fields_at {t : TypeId} {fs : Array Field} {fuel : Nat} {cs : List Value} {x : DataW H × List MemPlace} (ht : Try.prog.underlying t = some (.struct fs)) (hone : ∀ (i : Nat) (f : Field), fs[i]? = some f → f.offset = i ∧ Try.prog.cellsOf f.type = 1)
    (hC : Try.prog.cellsOf t = fs.size) (h : DataW.trod enc Try.prog w base spare held fuel t cs = some x) :
    ∃ n, cs.length = fs.size ∧ ∀ (i : Nat) (f : Field), fs[i]? = some f → ∃ y, DataW.trod enc Try.prog w base spare held n f.type [cs.getD i undef] = some y := by
  obtain ⟨xs, n, _, _, hl, hlen, hf⟩ := DataW.trod_struct ht h
  rw [hC] at hl
  refine ⟨n, hl, fun i f hi => ?_⟩
  have hlt : i < fs.size := (Array.getElem?_eq_some_iff.1 hi).1
  obtain ⟨ho, hc1⟩ := hone i f hi
  have g := hf i f hi
  rw [ho, hc1, take1_drop cs i undef (by omega), List.getElem?_eq_getElem (by omega)] at g
  exact ⟨_, g⟩
theorem f_int {t : TypeId} {k : IntKind} {n : Nat} {c : Value} {y : DataW H × List MemPlace} (ht : Try.prog.underlying t = some (.int k)) (h : DataW.trod enc Try.prog w base spare held n t [c] = some y) : ∃ z, c = .int k z := by
  obtain ⟨z, hz, _⟩ := DataW.trod_int ht h
  exact ⟨z, by simpa using hz⟩
theorem f_bool {t : TypeId} {n : Nat} {c : Value} {y : DataW H × List MemPlace} (ht : Try.prog.underlying t = some .bool) (h : DataW.trod enc Try.prog w base spare held n t [c] = some y) : ∃ z, c = .bool z := by
  obtain ⟨z, hz, _⟩ := DataW.trod_bool ht h
  exact ⟨z, by simpa using hz⟩
theorem f_string {t : TypeId} {n : Nat} {c : Value} {y : DataW H × List MemPlace} (ht : Try.prog.underlying t = some .string) (h : DataW.trod enc Try.prog w base spare held n t [c] = some y) : ∃ z : ByteArray, c = .string z ∧ z.size ≤ maxLen := by
  obtain ⟨z, hz, _, hm⟩ := DataW.trod_string ht h
  exact ⟨z, by simpa using hz, hm⟩
set_option maxRecDepth 10000 in
theorem open_state {fuel : Nat} {cs : List Value} {x : DataW H × List MemPlace} (h : DataW.trod enc Try.prog w base spare held fuel 27 cs = some x) :
    ∃ (d : DS) (s : Nat → SL) (f1 f2 : Nat → UInt8) (f3 : Nat → Nat → UInt8), cs = d.arr.toList ∧ d.val.size ≤ maxLen ∧ d.bs.n ≤ maxLen ∧ d.hs.n ≤ maxLen ∧ d.lit.n ≤ maxLen ∧ (∀ i, i < d.hs.n → (s i).n ≤ maxLen) ∧ BR w d.bs f1 ∧ BR w d.lit f2 ∧ NR w d.hs s f3 := by
  obtain ⟨n, hl, G⟩ := fields_at Try.underlying27 (hone_of (by kernel_rfl)) (by kernel_rfl) h
  have hL := list_getD cs
  rw [show cs.length = 32 from hl] at hL
  obtain ⟨y0, q0⟩ : ∃ y, DataW.trod enc Try.prog w base spare held n 22 [cs.getD 0 undef] = some y := G 0 _ rfl
  obtain ⟨tok, e0⟩ := f_int Try.underlying22 q0
  obtain ⟨y1, q1⟩ : ∃ y, DataW.trod enc Try.prog w base spare held n 9 [cs.getD 1 undef] = some y := G 1 _ rfl
  obtain ⟨val, e1, m1⟩ := f_string Try.underlying9 q1
  obtain ⟨y2, q2⟩ : ∃ y, DataW.trod enc Try.prog w base spare held n 3 [cs.getD 2 undef] = some y := G 2 _ rfl
  obtain ⟨eql, e2⟩ := f_int Try.underlying3 q2
  obtain ⟨y3, q3⟩ : ∃ y, DataW.trod enc Try.prog w base spare held n 23 [cs.getD 3 undef] = some y := G 3 _ rfl
  obtain ⟨bs, g3, e3, m3, b3⟩ := open_bytes q3
  have e3 : cs.getD 3 undef = _ := List.head_eq_of_cons_eq e3
  obtain ⟨y4, q4⟩ : ∃ y, DataW.trod enc Try.prog w base spare held n 24 [cs.getD 4 undef] = some y := G 4 _ rfl
  obtain ⟨bsp, e4⟩ := f_int Try.underlying24 q4
  obtain ⟨y5, q5⟩ : ∃ y, DataW.trod enc Try.prog w base spare held n 2 [cs.getD 5 undef] = some y := G 5 _ rfl
  obtain ⟨offs, e5⟩ := f_int Try.underlying2 q5
  obtain ⟨y6, q6⟩ : ∃ y, DataW.trod enc Try.prog w base spare held n 2 [cs.getD 6 undef] = some y := G 6 _ rfl
  obtain ⟨line, e6⟩ := f_int Try.underlying2 q6
  obtain ⟨y7, q7⟩ : ∃ y, DataW.trod enc Try.prog w base spare held n 2 [cs.getD 7 undef] = some y := G 7 _ rfl
  obtain ⟨col, e7⟩ := f_int Try.underlying2 q7
  obtain ⟨y8, q8⟩ : ∃ y, DataW.trod enc Try.prog w base spare held n 21 [cs.getD 8 undef] = some y := G 8 _ rfl
  obtain ⟨r, e8⟩ := f_int Try.underlying21 q8
  obtain ⟨y9, q9⟩ : ∃ y, DataW.trod enc Try.prog w base spare held n 3 [cs.getD 9 undef] = some y := G 9 _ rfl
  obtain ⟨wd, e9⟩ := f_int Try.underlying3 q9
  obtain ⟨y10, q10⟩ : ∃ y, DataW.trod enc Try.prog w base spare held n 4 [cs.getD 10 undef] = some y := G 10 _ rfl
  obtain ⟨errSet, e10⟩ := f_bool Try.underlying4 q10
  obtain ⟨y11, q11⟩ : ∃ y, DataW.trod enc Try.prog w base spare held n 4 [cs.getD 11 undef] = some y := G 11 _ rfl
  obtain ⟨readErrSet, e11⟩ := f_bool Try.underlying4 q11
  obtain ⟨y12, q12⟩ : ∃ y, DataW.trod enc Try.prog w base spare held n 4 [cs.getD 12 undef] = some y := G 12 _ rfl
  obtain ⟨readEOF, e12⟩ := f_bool Try.underlying4 q12
  obtain ⟨y13, q13⟩ : ∃ y, DataW.trod enc Try.prog w base spare held n 22 [cs.getD 13 undef] = some y := G 13 _ rfl
  obtain ⟨quote, e13⟩ := f_int Try.underlying22 q13
  obtain ⟨y14, q14⟩ : ∃ y, DataW.trod enc Try.prog w base spare held n 4 [cs.getD 14 undef] = some y := G 14 _ rfl
  obtain ⟨forbid, e14⟩ := f_bool Try.underlying4 q14
  obtain ⟨y15, q15⟩ : ∃ y, DataW.trod enc Try.prog w base spare held n 3 [cs.getD 15 undef] = some y := G 15 _ rfl
  obtain ⟨openN, e15⟩ := f_int Try.underlying3 q15
  obtain ⟨y16, q16⟩ : ∃ y, DataW.trod enc Try.prog w base spare held n 3 [cs.getD 16 undef] = some y := G 16 _ rfl
  obtain ⟨recov, e16⟩ := f_int Try.underlying3 q16
  obtain ⟨y17, q17⟩ : ∃ y, DataW.trod enc Try.prog w base spare held n 4 [cs.getD 17 undef] = some y := G 17 _ rfl
  obtain ⟨hdNil, e17⟩ := f_bool Try.underlying4 q17
  obtain ⟨y18, q18⟩ : ∃ y, DataW.trod enc Try.prog w base spare held n 3 [cs.getD 18 undef] = some y := G 18 _ rfl
  obtain ⟨nH, e18⟩ := f_int Try.underlying3 q18
  obtain ⟨y19, q19⟩ : ∃ y, DataW.trod enc Try.prog w base spare held n 3 [cs.getD 19 undef] = some y := G 19 _ rfl
  obtain ⟨buried, e19⟩ := f_int Try.underlying3 q19
  obtain ⟨y20, q20⟩ : ∃ y, DataW.trod enc Try.prog w base spare held n 25 [cs.getD 20 undef] = some y := G 20 _ rfl
  obtain ⟨hs, s, g20, e20, m20, ms, b20⟩ := open_bytes2 q20
  have e20 : cs.getD 20 undef = _ := List.head_eq_of_cons_eq e20
  obtain ⟨y21, q21⟩ : ∃ y, DataW.trod enc Try.prog w base spare held n 4 [cs.getD 21 undef] = some y := G 21 _ rfl
  obtain ⟨parsing, e21⟩ := f_bool Try.underlying4 q21
  obtain ⟨y22, q22⟩ : ∃ y, DataW.trod enc Try.prog w base spare held n 3 [cs.getD 22 undef] = some y := G 22 _ rfl
  obtain ⟨oB, e22⟩ := f_int Try.underlying3 q22
  obtain ⟨y23, q23⟩ : ∃ y, DataW.trod enc Try.prog w base spare held n 3 [cs.getD 23 undef] = some y := G 23 _ rfl
  obtain ⟨oBD, e23⟩ := f_int Try.underlying3 q23
  obtain ⟨y24, q24⟩ : ∃ y, DataW.trod enc Try.prog w base spare held n 3 [cs.getD 24 undef] = some y := G 24 _ rfl
  obtain ⟨nC, e24⟩ := f_int Try.underlying3 q24
  obtain ⟨y25, q25⟩ : ∃ y, DataW.trod enc Try.prog w base spare held n 3 [cs.getD 25 undef] = some y := G 25 _ rfl
  obtain ⟨nL, e25⟩ := f_int Try.underlying3 q25
  obtain ⟨y26, q26⟩ : ∃ y, DataW.trod enc Try.prog w base spare held n 3 [cs.getD 26 undef] = some y := G 26 _ rfl
  obtain ⟨nW, e26⟩ := f_int Try.underlying3 q26
  obtain ⟨y27, q27⟩ : ∃ y, DataW.trod enc Try.prog w base spare held n 23 [cs.getD 27 undef] = some y := G 27 _ rfl
  obtain ⟨lit, g27, e27, m27, b27⟩ := open_bytes q27
  have e27 : cs.getD 27 undef = _ := List.head_eq_of_cons_eq e27
  obtain ⟨y28, q28⟩ : ∃ y, DataW.trod enc Try.prog w base spare held n 4 [cs.getD 28 undef] = some y := G 28 _ rfl
  obtain ⟨spaced, e28⟩ := f_bool Try.underlying4 q28
  obtain ⟨y29, q29⟩ : ∃ y, DataW.trod enc Try.prog w base spare held n 3 [cs.getD 29 undef] = some y := G 29 _ rfl
  obtain ⟨lastB, e29⟩ := f_int Try.underlying3 q29
  obtain ⟨y30, q30⟩ : ∃ y, DataW.trod enc Try.prog w base spare held n 3 [cs.getD 30 undef] = some y := G 30 _ rfl
  obtain ⟨rxO, e30⟩ := f_int Try.underlying3 q30
  obtain ⟨y31, q31⟩ : ∃ y, DataW.trod enc Try.prog w base spare held n 4 [cs.getD 31 undef] = some y := G 31 _ rfl
  obtain ⟨rxF, e31⟩ := f_bool Try.underlying4 q31
  refine ⟨⟨tok, val, eql, bs, bsp, offs, line, col, r, wd, errSet, readErrSet, readEOF, quote, forbid, openN, recov, hdNil, nH, buried, hs, parsing, oB, oBD, nC, nL, nW, lit, spaced, lastB, rxO, rxF⟩, s, g3, g27, g20, ?_, m1, m3, m20, m27, ms, b3, b27, b20⟩
  rw [hL]
  show [cs.getD 0 undef, cs.getD 1 undef, cs.getD 2 undef, cs.getD 3 undef, cs.getD 4 undef, cs.getD 5 undef, cs.getD 6 undef, cs.getD 7 undef, cs.getD 8 undef, cs.getD 9 undef, cs.getD 10 undef, cs.getD 11 undef, cs.getD 12 undef, cs.getD 13 undef, cs.getD 14 undef, cs.getD 15 undef, cs.getD 16 undef, cs.getD 17 undef, cs.getD 18 undef, cs.getD 19 undef, cs.getD 20 undef, cs.getD 21 undef, cs.getD 22 undef, cs.getD 23 undef, cs.getD 24 undef, cs.getD 25 undef, cs.getD 26 undef, cs.getD 27 undef, cs.getD 28 undef, cs.getD 29 undef, cs.getD 30 undef, cs.getD 31 undef] = _
  rw [e0, e1, e2, e3, e4, e5, e6, e7, e8, e9, e10, e11, e12, e13, e14, e15, e16, e17, e18, e19, e20, e21, e22, e23, e24, e25, e26, e27, e28, e29, e30, e31]
  rfl
end
end Go.Proofs.Ytbfnkblcagoemaa.dirty
