/-
  What a new Config holds and what ifsJoin answers: the list joined by the first character of IFS. Conditions: the tables of unicode/utf8 as laid; sizes that can be reached.
-/
import Derived.Test.YtcncmbniaabhkaaDoorCut
import Derived.Test.YtcncmbniaabhkaaDoorShelf
namespace Go.Proofs.YtcncmbniaabhkaaDoor.joins
open Go.ChangeShapes Go.WideShapes Go.ChangeAt Go.RowKit
open Go.Proofs.YtcncmbniaabhkaaDoor.own Go.Proofs.YtcncmbniaabhkaaDoor.vars Go.Proofs.YtcncmbniaabhkaaDoor.plain Go.Proofs.YtcncmbniaabhkaaDoor.cut
set_option linter.unusedVariables false
theorem tabs_below {w w' : World} (hT : Lib.Utf8Tabs 0 1 w) (hb : Below w.heap.size w w') : Lib.Utf8Tabs 0 1 w' := by
  refine ⟨fun c hc => ?_, fun i hi => ⟨?_, ?_⟩⟩
  · exact (hb.cell (by exact cell_lt (hT.1 c hc))).trans (hT.1 c hc)
  · exact (hb.cell (by exact cell_lt (hT.2 i hi).1)).trans (hT.2 i hi).1
  · exact (hb.cell (by exact cell_lt (hT.2 i hi).2)).trans (hT.2 i hi).2
set_option maxRecDepth 100000 in
theorem newConf (s : ByteArray) (w : World) :
    Calls Tryd.prog 7 #[.string s] w fun e w' => e = .returned (.pointer (some ⟨w.heap.size, 0, none⟩)) ∧ w'.cell? ⟨w.heap.size, 25, none⟩ = some (.string s) ∧ Below w.heap.size w w' ∧ w.heap.size < w'.heap.size := by
  go_enter Tryd.func7, Tryd.ntmps7
  go_wp2
  go_ret
  exact ⟨rfl, by simp [go_sem], (Below.refl _ _).alloc (Nat.le_refl _) _, by simp⟩
/-! ### how long the joined text is -/
def tot (L : List (List UInt8)) : Nat := (L.map fun x => x.length + 8).sum
theorem tail_len (sep : List UInt8) (h : sep.length ≤ 8) : ∀ r : List (List UInt8), (Lib.joinTail sep r).length ≤ tot r
  | [] => by simp [Lib.joinTail, tot]
  | x :: r => by
    have ih := tail_len sep h r
    simp only [Lib.joinTail, tot, List.map_cons, List.flatten_cons, List.length_append, List.sum_cons] at ih ⊢
    omega
theorem join_len (sep : List UInt8) (h : sep.length ≤ 8) (L : List (List UInt8)) : (Lib.join L sep).length ≤ tot L := by
  cases L with
  | nil => rw [Lib.join_nil]; simp
  | cons x r =>
    rw [Lib.join_cons, List.length_append]
    have := tail_len sep h r
    simp only [tot, List.map_cons, List.sum_cons] at this ⊢
    omega
theorem tot_Sum (F : Nat → ByteArray) : ∀ n, (tot (LL F n) : Int) = Sum F n
  | 0 => by simp [tot, LL, vars.Sum]
  | n + 1 => by
    have ih := tot_Sum F n
    simp only [tot, LL, List.map_map] at ih
    simp only [tot, LL, List.range_succ, List.map_append, List.map_map, List.sum_append, List.map_cons, List.map_nil, List.sum_cons, List.sum_nil, vars.Sum]
    rw [Int.natCast_add, ih, ← Lib.size_eq]
    omega
/-- the joined text -/
def J (ifs : ByteArray) (F : Nat → ByteArray) (n : Nat) : ByteArray := ⟨(Lib.join (LL F n) (sepOf ifs).data.toList).toArray⟩
theorem sep_le (ifs : ByteArray) : (sepOf ifs).size ≤ 4 := by
  by_cases h : ifs.size = 0
  · rw [sep_none ifs h]; decide
  · rw [sep_size ifs (by omega)]; exact (dec_sep ifs (by omega)).2.2.1
theorem J_size (ifs : ByteArray) (F : Nat → ByteArray) (n : Nat) : ((J ifs F n).size : Int) ≤ Sum F n := by
  rw [← tot_Sum]
  have := join_len (sepOf ifs).data.toList (by rw [← Lib.size_eq]; have := sep_le ifs; omega) (LL F n)
  simp only [J, ByteArray.size, List.size_toArray]
  omega
theorem join13 (sep : ByteArray) (F : Nat → ByteArray) (bk o n c : Nat) (w : World) (hn0 : 0 < n) (hc : n ≤ c) (hn : n ≤ 1048576) (hcell : ∀ j, j < n → w.cell? ⟨bk, o + j, none⟩ = some (.string (F j))) (hl : (Lib.join (LL F n) sep.data.toList).length ≤ 140737488355328) :
    Calls Tryd.prog 13 #[.slice (some ⟨bk, o, none⟩) n c, .string sep] w fun e w' => e = .returned (.string ⟨(Lib.join (LL F n) sep.data.toList).toArray⟩) ∧ Below w.heap.size w w' := by
  have h := Tryd.strings_Join bk o c ((List.range n).map F) sep w
  have hm : ((List.range n).map F).map (·.data.toList) = LL F n := by simp [LL]
  have hlen : ((List.range n).map F).length = n := by simp
  rw [hm, hlen] at h
  refine h ?_ (by exact cell_lt (hcell 0 hn0)) (by omega) hc hl
  intro j x hj
  obtain ⟨hj1, hj2⟩ := List.getElem?_eq_some_iff.1 hj
  rw [hlen] at hj1
  have : F j = x := by simpa using hj2
  rw [← this]; exact hcell j hj1
set_option maxHeartbeats 2000000 in
theorem join11 (ifs : ByteArray) (F : Nat → ByteArray) (p bk o n c : Nat) (w : World) (hT : Lib.Utf8Tabs 0 1 w) (hi : ifs.size ≤ 1048576) (hp : w.cell? ⟨p, 25, none⟩ = some (.string ifs))
    (hn0 : 0 < n) (hc : n ≤ c) (hn : n ≤ 1048576) (hcell : ∀ j, j < n → w.cell? ⟨bk, o + j, none⟩ = some (.string (F j))) (hl : Sum F n ≤ 140737488355328) :
    Calls Tryd.prog 11 #[.pointer (some ⟨p, 0, none⟩), .slice (some ⟨bk, o, none⟩) n c] w fun e w' => e = .returned (.string (J ifs F n)) ∧ Below w.heap.size w w' := by
  have hlen := J_size ifs F n
  have HL := Lib.hid (show (Lib.join (LL F n) (sepOf ifs).data.toList).length ≤ 140737488355328 by
    have h2 : (J ifs F n).size = (Lib.join (LL F n) (sepOf ifs).data.toList).length := by simp [J, ByteArray.size]
    omega)
  clear hlen hl
  have HC := Lib.hid hcell
  have HT := Lib.hid hT
  clear hcell hT
  by_cases h0 : ifs.size = 0
  · have e0 : ifs.toList.isEmpty = true := by
      rw [Lib.toList_data]
      have := Lib.size_eq ifs
      cases h : ifs.data.toList with
      | nil => rfl
      | cons a b => rw [h] at this; simp at this; omega
    have hs := sep_none ifs h0
    have HJ := Lib.hid (show J ifs F n = ⟨(Lib.join (LL F n) (⟨#[]⟩ : ByteArray).data.toList).toArray⟩ by unfold J; rw [hs])
    have HL2 := Lib.hid (show (Lib.join (LL F n) (⟨#[]⟩ : ByteArray).data.toList).length ≤ 140737488355328 by have := HL.out; rw [hs] at this; exact this)
    clear hs HL
    go_enter Tryd.func11, Tryd.ntmps11
    go_wp2_with fail
    refine (join13 ⟨#[]⟩ F bk o n c w hn0 hc hn HC.out HL2.out).mono ?_
    rintro e w1 ⟨rfl, hb⟩
    rw [← HJ.out]
    go_wp2
    go_ret
    exact ⟨rfl, hb⟩
  · have e0 : ifs.toList.isEmpty = false := by
      rw [Lib.toList_data]
      have := Lib.size_eq ifs
      cases h : ifs.data.toList with
      | nil => rw [h, List.length_nil] at this; omega
      | cons a b => rfl
    obtain ⟨d1, d2, d3, _⟩ := dec_sep ifs (by omega)
    have hs : sepOf ifs = ifs.extract 0 (Utf8.decode ifs 0).2 := if_neg h0
    have hg : Lib.decodeGo ifs = Utf8.decode ifs 0 := if_neg h0
    have HD := Lib.hid (Tryd.utf8_DecodeRuneInString ifs w HT.out)
    rw [hg] at HD
    have HJ := Lib.hid (show J ifs F n = ⟨(Lib.join (LL F n) (ifs.extract 0 (Utf8.decode ifs 0).2).data.toList).toArray⟩ by unfold J; rw [hs])
    have HL2 := Lib.hid (show (Lib.join (LL F n) (ifs.extract 0 (Utf8.decode ifs 0).2).data.toList).length ≤ 140737488355328 by have := HL.out; rw [hs] at this; exact this)
    clear hs hg HL
    generalize Utf8.decode ifs 0 = q at *
    obtain ⟨q1, q2⟩ := q
    simp only at d1 d2 d3 HJ HL2
    go_enter Tryd.func11, Tryd.ntmps11
    go_wp2_with fail
    refine HD.out.mono ?_
    rintro e w1 ⟨rfl, hb⟩
    have hp1 : w1.cell? ⟨p, 25, none⟩ = some (.string ifs) := cb hb (by exact cell_lt hp) hp
    have HC1 := Lib.hid (fun j hj => cb hb (by exact cell_lt (HC.out j hj)) (HC.out j hj))
    go_wp2_with fail
    refine (join13 _ F bk o n c w1 hn0 hc hn HC1.out HL2.out).mono ?_
    rintro e w2 ⟨rfl, hb2⟩
    rw [← HJ.out]
    have hb3 : Below w.heap.size w w2 := hb.trans (hb2.mono hb.size)
    clear hb hb2
    go_wp2
    go_ret
    exact ⟨rfl, hb3⟩
theorem join8 (ifs : ByteArray) (F : Nat → ByteArray) (p bk o n c : Nat) (w : World) (hT : Lib.Utf8Tabs 0 1 w) (hi : ifs.size ≤ 1048576) (hp : w.cell? ⟨p, 25, none⟩ = some (.string ifs))
    (hn0 : 0 < n) (hc : n ≤ c) (hn : n ≤ 1048576) (hcell : ∀ j, j < n → w.cell? ⟨bk, o + j, none⟩ = some (.string (F j))) (hl : Sum F n ≤ 140737488355328) :
    Calls Tryd.prog 8 #[.pointer (some ⟨p, 0, none⟩), .slice (some ⟨bk, o, none⟩) n c] w fun e w' => e = .returned (.string (J ifs F n)) ∧ Below w.heap.size w w' := by
  have H := Lib.hid (join11 ifs F p bk o n c w hT hi hp hn0 hc hn hcell hl)
  clear hT hp hcell hl
  go_enter Tryd.func8, Tryd.ntmps8
  go_wp2_with fail
  refine H.out.mono ?_
  rintro e w1 ⟨rfl, hb⟩
  go_wp2
  go_ret
  exact ⟨rfl, hb⟩
/-- A slice of strings that came in: nil, or a row of cap cells that hold zs. -/
def IsStrs (w : World) (a : Option Addr) (len cap : Nat) (zs : List ByteArray) : Prop :=
  (a = none ∧ len = 0 ∧ cap = 0 ∧ zs = []) ∨
  ∃ x, a = some x ∧ len ≤ cap ∧ cap ≤ maxLen ∧ zs.length = cap ∧ (∀ i, i < zs.length → w.cell? (x.add i) = some (.string (zs.getD i ByteArray.empty))) ∧ ∀ s ∈ zs, s.size ≤ maxLen
theorem IsStrs.sr {w : World} {a : Option Addr} {len cap : Nat} {zs : List ByteArray} (h : IsStrs w a len cap zs) : SR w a len (fun i => zs.getD i ByteArray.empty) ∧ len ≤ maxLen ∧ (a = none → len = 0 ∧ cap = 0) := by
  rcases h with ⟨rfl, rfl, rfl, rfl⟩ | ⟨x, rfl, hl, hm, hz, hc, hs⟩
  · exact ⟨.inl rfl, Nat.zero_le _, fun _ => ⟨rfl, rfl⟩⟩
  · refine ⟨?_, by omega, fun h => by cases h⟩
    by_cases h0 : len = 0
    · exact .inl h0
    · obtain ⟨b, off, rfl, hc'⟩ := row_at (n := len) (F := fun i => .string (zs.getD i ByteArray.empty)) (fun i hi => hc i (by omega)) (by omega)
      refine .inr ⟨b, off, rfl, fun i hi => ⟨hc' i hi, ?_⟩⟩
      have := hs (zs.getD i ByteArray.empty) (by rw [List.getD_eq_getElem?_getD, List.getElem?_eq_getElem (by omega)]; exact List.getElem_mem _)
      unfold maxLen at this; exact this
theorem J_two (ifs : ByteArray) : J ifs (fun _ => ⟨#[]⟩) 2 = sepOf ifs := by
  apply ba_ext
  simp [J, LL, List.range_succ, join_two, Lib.join_one]
theorem two_cells (w : World) (j : Nat) (h : j < 2) : (w.alloc (.cells #[.string ⟨#[]⟩, .string ⟨#[]⟩] 9)).cell? ⟨w.heap.size, 0 + j, none⟩ = some (.string ⟨#[]⟩) := by
  rw [Nat.zero_add, World.cell?_alloc_at _ _ _ _ rfl]
  have : j = 0 ∨ j = 1 := by omega
  rcases this with rfl | rfl <;> rfl
theorem Sum_two : vars.Sum (fun _ => ⟨#[]⟩) 2 = 16 := rfl
theorem isEmpty_of (s : ByteArray) (h : s.size = 0) : s.toList.isEmpty = true := by
  rw [Lib.toList_data]
  have := Lib.size_eq s
  cases h2 : s.data.toList with
  | nil => rfl
  | cons a b => rw [h2, List.length_cons] at this; omega
theorem isEmpty_not (s : ByteArray) (h : s.size ≠ 0) : s.toList.isEmpty = false := by
  rw [Lib.toList_data]
  have := Lib.size_eq s
  cases h2 : s.data.toList with
  | nil => rw [h2, List.length_nil] at this; omega
  | cons a b => rfl
end Go.Proofs.YtcncmbniaabhkaaDoor.joins
