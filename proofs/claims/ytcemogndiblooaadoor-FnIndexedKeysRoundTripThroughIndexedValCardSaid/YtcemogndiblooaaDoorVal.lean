/-
  Contracts of indexedVal at one of its own keys, of the copies, and of zzParse at what Itoa writes. Conditions: as each contract states.
-/
import Derived.Test.YtcemogndiblooaaDoorKeys
namespace Go.Proofs.YtcemogndiblooaaDoor.keys
open Go.ChangeShapes Go.WideShapes Go.ChangeAt Go.RowKit
open Go.Proofs.YtcemogndiblooaaDoor.own Go.Proofs.YtcemogndiblooaaDoor.vars Go.Proofs.YtcemogndiblooaaDoor.parse
set_option linter.unusedVariables false

theorem parse_itoa (n : Int) (w : World) (h0 : -9223372036854775808 ≤ n) (h1 : n ≤ 9223372036854775807) : Calls Tryd.prog 11 #[.string ⟨(Lib.itoa n).toArray⟩] w (PP n w) := by
  by_cases hn : n < 0
  · have e : Lib.itoa n = 45 :: Lib.decDigits n.natAbs := by unfold Lib.itoa; rw [if_pos hn]
    have hW := writes_dec n.natAbs (by omega)
    have hs : (⟨(45 :: Lib.decDigits n.natAbs).toArray⟩ : ByteArray).size = (⟨(Lib.decDigits n.natAbs).toArray⟩ : ByteArray).size + 1 := by simp [ByteArray.size]
    have h := parse_neg ⟨(45 :: Lib.decDigits n.natAbs).toArray⟩ ⟨(Lib.decDigits n.natAbs).toArray⟩ n.natAbs w (by omega) (by omega) hW hs rfl (by
      have hd : ((⟨(45 :: Lib.decDigits n.natAbs).toArray⟩ : ByteArray).extract 1 (⟨(45 :: Lib.decDigits n.natAbs).toArray⟩ : ByteArray).size).data = (Lib.decDigits n.natAbs).toArray := by
        rw [ByteArray.data_extract]
        apply Array.toList_inj.1
        rw [Array.toList_extract, List.extract_eq_take_drop]
        simp [ByteArray.size]
      cases hx : (⟨(45 :: Lib.decDigits n.natAbs).toArray⟩ : ByteArray).extract 1 (⟨(45 :: Lib.decDigits n.natAbs).toArray⟩ : ByteArray).size with
      | mk a => rw [hx] at hd; congr 1)
    rw [e]
    rw [show (-(n.natAbs : Int)) = n by omega] at h; exact h
  · have e : Lib.itoa n = Lib.decDigits n.toNat := by unfold Lib.itoa; rw [if_neg hn]
    have h := parse_pos ⟨(Lib.decDigits n.toNat).toArray⟩ n.toNat w (by omega) (writes_dec n.toNat (by omega))
    rw [e]
    rw [show ((n.toNat : Nat) : Int) = n by omega] at h; exact h
def VP (s : ByteArray) (w : World) (e : Ending) (w' : World) : Prop := e = .returned (.tuple #[.string s, .bool true]) ∧ Below w.heap.size w w'
set_option maxHeartbeats 2000000 in
theorem valD14 (b n lc k : Nat) (s : ByteArray) (w : World) (hn : n ≤ 131072) (hk : k < n) (hc : w.cell? ⟨b, k, none⟩ = some (.string s)) :
    Calls Tryd.prog 14 #[vr (.slice (some ⟨b, 0, none⟩) n lc) (.slice none 0 0), .int .i64 k] w (VP s w) := by
  have hq := fun w => run_neq_slice_nil_any (P := Tryd.prog) w 23 3 none 0 0 0 0 Tryd.underlying23
  have hlt := cell_lt hc
  have i1 : (k : Int) < (n : Int) := by omega
  go_enter Tryd.func14, Tryd.ntmps14
  go_wp2
  go_ret2
  exact ⟨rfl, (Below.refl _ _).alloc (Nat.le_refl _) _⟩
/-! plain: the place of an element in a strictly increasing list -/
theorem lt_of {g : Nat → Int} {n : Nat} (h : ∀ i, i + 1 < n → g i < g (i + 1)) : ∀ j i, i < j → j < n → g i < g j := by
  intro j
  induction j with
  | zero => intro i hi; omega
  | succ j ih =>
    intro i hi hj
    by_cases e : i = j
    · subst e; exact h i hj
    · exact Int.lt_trans (ih i (by omega) (by omega)) (h j hj)
theorem cnt_mono {g : Nat → Int} {n : Nat} (h : ∀ i, i + 1 < n → g i < g (i + 1)) (k : Nat) (hk : k < n) : ((List.range n).map g).countP (· < g k) = k := by
  rw [List.countP_map]
  have e : List.range n = List.range k ++ (List.range (n - k)).map (k + ·) := by rw [← List.range_add]; congr 1; omega
  rw [e, List.countP_append]
  have h1 : (List.range k).countP ((fun x => decide (x < g k)) ∘ g) = k := by
    have : (List.range k).countP ((fun x => decide (x < g k)) ∘ g) = (List.range k).length := List.countP_eq_length.2 fun i hi => by
      simp only [List.mem_range] at hi
      simp only [Function.comp]; exact decide_eq_true (lt_of h k i hi hk)
    rw [this, List.length_range]
  have h2 : ((List.range (n - k)).map (k + ·)).countP ((fun x => decide (x < g k)) ∘ g) = 0 := List.countP_eq_zero.2 fun i hi => by
    simp only [List.mem_map, List.mem_range] at hi
    obtain ⟨j, hj, rfl⟩ := hi
    simp only [Function.comp, decide_eq_true_eq]
    rcases Nat.eq_zero_or_pos j with h0 | h0
    · subst h0; simp
    · have := lt_of h (k + j) k (by omega) (by omega); omega
  rw [h1, h2, Nat.add_zero]
theorem pair_mono {g : Nat → Int} {n : Nat} (h : ∀ i, i + 1 < n → g i < g (i + 1)) : ((List.range n).map g).Pairwise (· ≤ ·) := by
  rw [List.pairwise_map, List.pairwise_iff_getElem]
  intro i j hi hj hij
  simp only [List.length_range] at hi hj
  simp only [List.getElem_range]
  exact Int.le_of_lt (lt_of h j i hij hj)
theorem has_at (g : Nat → Int) (n k : Nat) (hk : k < n) : ((List.range n).map g).contains (g k) = true := by
  rw [List.contains_iff_mem]; exact List.mem_map.2 ⟨k, List.mem_range.2 hk, rfl⟩
theorem search_at (ib io n ic k : Nat) (g : Nat → Int) (w : World) (hn : n ≤ 131072) (hk : k < n) (hx : ∀ i, i < n → w.cell? ⟨ib, io + i, none⟩ = some (.int .i64 (g i))) (hm : ∀ i, i + 1 < n → g i < g (i + 1)) :
    Calls Tryd.prog 16 #[.slice (some ⟨ib, io, none⟩) n ic, .int .i64 (g k)] w fun e w' => e = .returned (.tuple #[.int .i64 (k : Int), .bool true]) ∧ Same w w' := by
  have hl : ((List.range n).map g).length = n := by simp
  have h := Tryd.slices_BinarySearch_int ib io n ic ((List.range n).map g) (g k) w (by omega) (by omega) (fun j hj => by
    rw [hl] at hj
    rw [hx j hj]
    simp [List.getD_eq_getElem?_getD, hj]) (by rw [List.take_of_length_le (by omega)]; exact pair_mono hm)
  rw [List.take_of_length_le (by omega), cnt_mono hm k hk, has_at g n k hk] at h
  exact h.mono fun e w' ⟨he, q, hq⟩ => ⟨he, by rw [hq]; exact ⟨rfl, rfl, rfl, rfl⟩⟩
set_option maxHeartbeats 2000000 in
theorem valS14 (b n lc ib io ic k : Nat) (g : Nat → Int) (s : ByteArray) (w : World) (hn : n ≤ 131072) (hk : k < n) (hc : w.cell? ⟨b, k, none⟩ = some (.string s)) (hx : ∀ i, i < n → w.cell? ⟨ib, io + i, none⟩ = some (.int .i64 (g i))) (hm : ∀ i, i + 1 < n → g i < g (i + 1)) :
    Calls Tryd.prog 14 #[vr (.slice (some ⟨b, 0, none⟩) n lc) (.slice (some ⟨ib, io, none⟩) n ic), .int .i64 (g k)] w (VP s w) := by
  have hq := fun w => run_neq_slice_nil_any (P := Tryd.prog) w 23 3 (some ⟨ib, io, none⟩) n ic 0 0 Tryd.underlying23
  have hlt := cell_lt hc
  have i1 : (k : Int) < (n : Int) := by omega
  have HX := Lib.hid hx
  have HM := Lib.hid hm
  clear hx hm
  go_enter Tryd.func14, Tryd.ntmps14
  go_wp2_with fail
  with_reducible refine (search_at ib io n ic k g _ hn hk (fun i hi => ck _ (HX.out i hi)) HM.out).mono ?_
  rintro e w2 ⟨rfl, hs⟩
  have c1 := hs.cell (ck _ hc)
  have c6 : w2.cell? ⟨w.heap.size, 6, none⟩ = some (.slice (some ⟨b, 0, none⟩) n lc) := hs.cell (by simp)
  have HB := Lib.hid (((Below.refl w.heap.size w).alloc (Nat.le_refl _) _).trans (hs.below _))
  clear hs hc
  go_wp2
  go_ret2
  exact ⟨rfl, HB.out⟩
set_option maxHeartbeats 1000000 in
theorem valD (b n lc k : Nat) (s : ByteArray) (w : World) (hn : n ≤ 131072) (hk : k < n) (hc : w.cell? ⟨b, k, none⟩ = some (.string s)) :
    Calls Tryd.prog 12 #[vr (.slice (some ⟨b, 0, none⟩) n lc) (.slice none 0 0), .int .i64 k] w (VP s w) := by
  go_enter Tryd.func12, Tryd.ntmps12
  go_wp2_with fail
  with_reducible refine (valD14 b n lc k s _ hn hk (ck _ hc)).mono ?_
  rintro e w2 ⟨rfl, hb⟩
  have HB := Lib.hid (((Below.refl w.heap.size w).alloc (Nat.le_refl _) _).trans (hb.mono (by simp)))
  clear hb
  go_wp2
  go_ret2
  exact ⟨rfl, HB.out⟩
set_option maxHeartbeats 1000000 in
theorem valS (b n lc ib io ic k : Nat) (g : Nat → Int) (s : ByteArray) (w : World) (hn : n ≤ 131072) (hk : k < n) (hc : w.cell? ⟨b, k, none⟩ = some (.string s)) (hx : ∀ i, i < n → w.cell? ⟨ib, io + i, none⟩ = some (.int .i64 (g i))) (hm : ∀ i, i + 1 < n → g i < g (i + 1)) :
    Calls Tryd.prog 12 #[vr (.slice (some ⟨b, 0, none⟩) n lc) (.slice (some ⟨ib, io, none⟩) n ic), .int .i64 (g k)] w (VP s w) := by
  have HX := Lib.hid hx
  have HM := Lib.hid hm
  clear hx hm
  go_enter Tryd.func12, Tryd.ntmps12
  go_wp2_with fail
  with_reducible refine (valS14 b n lc ib io ic k g s _ hn hk (ck _ hc) (fun i hi => ck _ (HX.out i hi)) HM.out).mono ?_
  rintro e w2 ⟨rfl, hb⟩
  have HB := Lib.hid (((Below.refl w.heap.size w).alloc (Nat.le_refl _) _).trans (hb.mono (by simp)))
  clear hb
  go_wp2
  go_ret2
  exact ⟨rfl, HB.out⟩
/-! the copies -/
def SRw (w : World) (a : Option Addr) (n : Nat) (f : Nat → ByteArray) : Prop := n = 0 ∨ ∃ b, a = some ⟨b, 0, none⟩ ∧ ∀ i, i < n → w.cell? ⟨b, i, none⟩ = some (.string (f i))
theorem SRw.keep {w w' : World} {a : Option Addr} {n : Nat} {f : Nat → ByteArray} (h : SRw w a n f) (hb : Below w.heap.size w w') : SRw w' a n f := by
  rcases h with h | ⟨b, hx, hc⟩
  · exact .inl h
  · exact .inr ⟨b, hx, fun i hi => cb hb (cell_lt (hc i hi)) (hc i hi)⟩
def CSP (n : Nat) (f : Nat → ByteArray) (w : World) (e : Ending) (w' : World) : Prop := ∃ la lc, e = .returned (.slice la n lc) ∧ SRw w' la n f ∧ Below w.heap.size w w'
theorem cloneS_all (a : Option Addr) (n c : Nat) (f : Nat → ByteArray) (w : World) (hn : n ≤ 131072) (h0 : a = none → n = 0 ∧ c = 0) (h : SR w a n f) : Calls Tryd.prog 8 #[.slice a n c] w (CSP n f w) := by
  cases a with
  | none => obtain ⟨rfl, rfl⟩ := h0 rfl; exact (cloneS_nil w).mono fun _ _ ⟨he, hw⟩ => ⟨_, _, he, .inl rfl, hw ▸ Below.refl _ _⟩
  | some x =>
    by_cases hz : n = 0
    · subst hz; exact (cloneS_empty x c w).mono fun _ _ ⟨he, hw⟩ => ⟨_, _, he, .inl rfl, hw⟩
    · rcases h with h | ⟨b, off, hx, hc⟩
      · omega
      · injection hx with hx; subst hx
        exact (cloneS_row b off n c f w (by omega) (fun i hi => (hc i hi).1)).mono fun _ _ ⟨he, ho, hw⟩ => ⟨_, _, he, .inr ⟨_, rfl, fun i hi => by rw [ho.cellAt i (by omega)]; exact strsV_get _ _ _ hi⟩, hw⟩
def CIP (n : Nat) (g : Nat → Int) (w : World) (e : Ending) (w' : World) : Prop := ∃ b, e = .returned (.slice (some ⟨b, 0, none⟩) n n) ∧ (∀ i, i < n → w'.cell? ⟨b, 0 + i, none⟩ = some (.int .i64 (g i))) ∧ Below w.heap.size w w'
theorem cloneI_all (x : Addr) (n c : Nat) (g : Nat → Int) (w : World) (hn : n ≤ 131072) (h : IR w (some x) n g) : Calls Tryd.prog 9 #[.slice (some x) n c] w (CIP n g w) := by
  by_cases hz : n = 0
  · subst hz; exact (cloneI_empty x c w).mono fun _ _ ⟨he, hw⟩ => ⟨_, he, fun i hi => by omega, hw⟩
  · rcases h with h | ⟨b, off, hx, hc⟩
    · omega
    · injection hx with hx; subst hx
      exact (cloneI_row b off n c g w (by omega) hc).mono fun _ _ ⟨he, ho, hw⟩ => ⟨_, he, fun i hi => by rw [Nat.zero_add, ho.cellAt i (by omega)]; exact intsV_get _ _ _ _ hi, hw⟩
theorem IsRow.bd {w : World} {a : Option Addr} {len cap : Nat} {zs : List Int} (h : IsRow .i64 w a len cap zs) : ∀ i, i < len → -9223372036854775808 ≤ zs.getD i 0 ∧ zs.getD i 0 ≤ 9223372036854775807 := by
  rcases h with ⟨_, rfl, _, _⟩ | ⟨x, _, hl, hm, hz, hc, hw⟩
  · intro i hi; omega
  · intro i hi
    have hmem : zs.getD i 0 ∈ zs := by rw [List.getD_eq_getElem?_getD, List.getElem?_eq_getElem (by omega)]; exact List.getElem_mem _
    exact wf_i64 (hw _ hmem)
/-- the nine cells of a Variable -/
structure VarAt (w : World) (b : Nat) (l i : Value) : Prop where
  v0 : w.cell? ⟨b, 0, none⟩ = some (.bool true)
  v1 : w.cell? ⟨b, 1, none⟩ = some (.bool false)
  v2 : w.cell? ⟨b, 2, none⟩ = some (.bool false)
  v3 : w.cell? ⟨b, 3, none⟩ = some (.bool false)
  v4 : w.cell? ⟨b, 4, none⟩ = some (.int .u8 3)
  v5 : w.cell? ⟨b, 5, none⟩ = some (.string ⟨#[]⟩)
  v6 : w.cell? ⟨b, 6, none⟩ = some l
  v7 : w.cell? ⟨b, 7, none⟩ = some (.map none)
  v8 : w.cell? ⟨b, 8, none⟩ = some i
theorem VarAt.keep {w w' : World} {b : Nat} {l i : Value} (h : VarAt w b l i) (hb : Below w.heap.size w w') : VarAt w' b l i := by
  have hlt : b < w.heap.size := cell_lt h.v0
  exact ⟨cb hb hlt h.v0, cb hb hlt h.v1, cb hb hlt h.v2, cb hb hlt h.v3, cb hb hlt h.v4, cb hb hlt h.v5, cb hb hlt h.v6, cb hb hlt h.v7, cb hb hlt h.v8⟩
end Go.Proofs.YtcemogndiblooaaDoor.keys
