/-
  Plain facts: joining strings by a separator whose first byte does not occur again in it, and cutting the joined text at each separator, left to right. No program in sight.
-/
import Derived.WalkKit
import Derived.Lib.Join
import Derived.Lib.Strings
import Derived.Lib.IndexBytes
import Derived.Lib.DecodeN
import Derived.Lib.TrimU
namespace Go.Proofs.YtcncmbniaabhkaaDoor.plain
open Go.RowKit
set_option linter.unusedVariables false
/-- the first byte does not occur again -/
def HF (sep : List UInt8) : Prop := ∃ c r, sep = c :: r ∧ c ∉ r
theorem no_match (sep x tail : List UInt8) (m : Nat) (hf : HF sep) (hx : ¬ sep <:+: x) (ht : tail = [] ∨ ∃ t, tail = sep ++ t) (hm : m < x.length) : ¬ sep <+: (x ++ tail).drop m := by
  intro hp
  rw [List.drop_append_of_le_length (by omega)] at hp
  have hy : 0 < (x.drop m).length := by rw [List.length_drop]; omega
  have hsuf : x.drop m <:+: x := (List.drop_suffix m x).isInfix
  generalize x.drop m = y at *
  by_cases hl : sep.length ≤ y.length
  · have h1 : sep <+: y := List.prefix_of_prefix_length_le hp (List.prefix_append _ _) hl
    exact hx (h1.isInfix.trans hsuf)
  · have h1 : y <+: sep := List.prefix_of_prefix_length_le (List.prefix_append _ _) hp (by omega)
    obtain ⟨z, hz⟩ := h1
    have hz0 : z ≠ [] := by
      intro e; rw [e, List.append_nil] at hz; rw [hz] at hl; omega
    have h2 : z <+: tail := by
      rw [← hz] at hp
      exact (List.prefix_append_right_inj y).1 hp
    rcases ht with rfl | ⟨t, rfl⟩
    · exact hz0 (List.prefix_nil.1 h2)
    · obtain ⟨c, r, hs, hcr⟩ := hf
      cases z with
      | nil => exact hz0 rfl
      | cons d z' =>
        cases y with
        | nil => simp at hy
        | cons e y' =>
          obtain ⟨u, hu⟩ := h2
          rw [hs] at hu hz
          simp only [List.cons_append, List.cons.injEq] at hu hz
          apply hcr
          rw [← hz.2, ← hu.1]
          simp
theorem join_two (x y : List UInt8) (r : List (List UInt8)) (sep : List UInt8) : Lib.join (x :: y :: r) sep = x ++ (sep ++ Lib.join (y :: r) sep) := by
  rw [Lib.join_cons, Lib.join_cons]
  simp [Lib.joinTail]
/-- does sep lie at place i of J? -/
def eqAt (J : ByteArray) (i : Nat) (sep : ByteArray) : Bool := (J.extract i (i + sep.size)).toList == sep.toList
theorem eqAt_iff (J : ByteArray) (i : Nat) (sep : ByteArray) : eqAt J i sep = true ↔ sep.data.toList <+: J.data.toList.drop i := by
  unfold eqAt
  rw [beq_iff_eq, Lib.extract_toList, Lib.toList_data, List.prefix_iff_eq_take, ← Lib.size_eq, show i + sep.size - i = sep.size by omega]
  exact eq_comm
theorem eqAt_false (J : ByteArray) (i : Nat) (sep : ByteArray) (h : ¬ sep.data.toList <+: J.data.toList.drop i) : eqAt J i sep = false := by
  cases he : eqAt J i sep
  · rfl
  · exact absurd ((eqAt_iff J i sep).1 he) h
/-- k pieces are cut off; the next begins at start; m of its bytes are passed -/
def Rel (J sep : ByteArray) (L : List (List UInt8)) (k start m : Nat) : Prop :=
  k < L.length ∧ m ≤ (L.getD k []).length ∧ start ≤ J.size ∧ J.data.toList.drop start = Lib.join (L.drop k) sep.data.toList
theorem drop_head (L : List (List UInt8)) (k : Nat) (h : k < L.length) : L.drop k = L.getD k [] :: L.drop (k + 1) := by
  rw [List.drop_eq_getElem_cons h, List.getD_eq_getElem?_getD, List.getElem?_eq_getElem h]; rfl
theorem Rel.start (J sep : ByteArray) (L : List (List UInt8)) (h : 0 < L.length) (hJ : J.data.toList = Lib.join L sep.data.toList) : Rel J sep L 0 0 0 :=
  ⟨h, Nat.zero_le _, Nat.zero_le _, by simpa using hJ⟩
/-- what lies behind the piece -/
theorem Rel.tail {J sep : ByteArray} {L : List (List UInt8)} {k start m : Nat} (h : Rel J sep L k start m) :
    ∃ t, J.data.toList.drop start = L.getD k [] ++ t ∧ ((k + 1 = L.length ∧ t = []) ∨ (k + 1 < L.length ∧ t = sep.data.toList ++ Lib.join (L.drop (k + 1)) sep.data.toList)) := by
  obtain ⟨hk, hm, hs, hd⟩ := h
  rw [drop_head L k hk] at hd
  by_cases hl : k + 1 = L.length
  · refine ⟨[], ?_, .inl ⟨hl, rfl⟩⟩
    rw [hd, List.drop_eq_nil_of_le (by omega), Lib.join_one, List.append_nil]
  · have hlt : k + 1 < L.length := by omega
    refine ⟨_, ?_, .inr ⟨hlt, rfl⟩⟩
    rw [hd]
    conv => lhs; rw [drop_head L (k + 1) hlt]
    rw [join_two, ← drop_head L (k + 1) hlt]
theorem Rel.size {J sep : ByteArray} {L : List (List UInt8)} {k start m : Nat} (h : Rel J sep L k start m) (t : List UInt8) (ht : J.data.toList.drop start = L.getD k [] ++ t) : start + (L.getD k []).length + t.length = J.size := by
  have h1 := congrArg List.length ht
  rw [List.length_drop, List.length_append, ← Lib.size_eq] at h1
  have := h.2.2.1
  omega
theorem Rel.le {J sep : ByteArray} {L : List (List UInt8)} {k start m : Nat} (h : Rel J sep L k start m) : start + m ≤ J.size := by
  obtain ⟨t, ht, _⟩ := h.tail
  have hz := h.size t ht
  have hm := h.2.1
  omega
theorem Rel.step {J sep : ByteArray} {L : List (List UInt8)} {k start m : Nat} (h : Rel J sep L k start m) (hf : HF sep.data.toList) (hx : ∀ x ∈ L, ¬ sep.data.toList <:+: x) (hle : start + m + sep.size ≤ J.size) :
    (eqAt J (start + m) sep = false ∧ Rel J sep L k start (m + 1)) ∨
    (eqAt J (start + m) sep = true ∧ Rel J sep L (k + 1) (start + m + sep.size) 0 ∧ (J.extract start (start + m)).data.toList = L.getD k []) := by
  obtain ⟨t, ht, hc⟩ := h.tail
  have hz := h.size t ht
  have hsz : 0 < sep.size := by
    obtain ⟨c, r, hs, _⟩ := hf
    rw [Lib.size_eq, hs]; simp
  have hk := h.1
  have hm := h.2.1
  have hmem : L.getD k [] ∈ L := by
    rw [List.getD_eq_getElem?_getD, List.getElem?_eq_getElem hk]; exact List.getElem_mem _
  have hdd : J.data.toList.drop (start + m) = (L.getD k [] ++ t).drop m := by rw [← ht, List.drop_drop]
  by_cases hlt : m < (L.getD k []).length
  · left
    refine ⟨eqAt_false _ _ _ ?_, hk, by omega, h.2.2.1, h.2.2.2⟩
    rw [hdd]
    refine no_match _ _ _ m hf (hx _ hmem) ?_ hlt
    rcases hc with ⟨_, rfl⟩ | ⟨_, rfl⟩
    · exact .inl rfl
    · exact .inr ⟨_, rfl⟩
  · obtain rfl : m = (L.getD k []).length := by omega
    rcases hc with ⟨hl, rfl⟩ | ⟨hl, rfl⟩
    · rw [List.length_nil] at hz; omega
    · right
      have hd2 : J.data.toList.drop (start + (L.getD k []).length) = sep.data.toList ++ Lib.join (L.drop (k + 1)) sep.data.toList := by
        rw [hdd, List.drop_left]
      refine ⟨(eqAt_iff _ _ _).2 ?_, ⟨hl, Nat.zero_le _, hle, ?_⟩, ?_⟩
      · rw [hd2]; exact List.prefix_append _ _
      · rw [← List.drop_drop, hd2, Lib.size_eq, List.drop_left]
      · rw [Lib.extract_data, ht, show start + (L.getD k []).length - start = (L.getD k []).length by omega, List.take_left]
theorem Rel.done {J sep : ByteArray} {L : List (List UInt8)} {k start m : Nat} (h : Rel J sep L k start m) (hle : ¬ start + m + sep.size ≤ J.size) :
    k + 1 = L.length ∧ (J.extract start J.size).data.toList = L.getD k [] := by
  obtain ⟨t, ht, hc⟩ := h.tail
  have hz := h.size t ht
  have hm := h.2.1
  rcases hc with ⟨hl, rfl⟩ | ⟨hl, rfl⟩
  · refine ⟨hl, ?_⟩
    rw [Lib.extract_data, ht, List.append_nil]
    rw [List.take_of_length_le]
    rw [List.length_nil] at hz; omega
  · rw [List.length_append, ← Lib.size_eq] at hz; omega

/-! ### the separator: the first character of a text -/
open Go.Lib (decodeN decode_at)
set_option maxRecDepth 100000 in
set_option maxHeartbeats 4000000 in
theorem decN_sep (n b0 b1 b2 b3 : Nat) (hn : 1 ≤ n) : 1 ≤ (decodeN n b0 b1 b2 b3).2 ∧ (decodeN n b0 b1 b2 b3).2 ≤ n ∧ (decodeN n b0 b1 b2 b3).2 ≤ 4 ∧ (1 < (decodeN n b0 b1 b2 b3).2 → 192 ≤ b0 ∧ b1 < 192) ∧ (2 < (decodeN n b0 b1 b2 b3).2 → b2 < 192) ∧ (3 < (decodeN n b0 b1 b2 b3).2 → b3 < 192) := by
  unfold decodeN
  repeat' split
  all_goals simp only
  all_goals omega
/-- the separator that ifsJoin takes -/
def sepOf (s : ByteArray) : ByteArray := if s.size = 0 then ⟨#[]⟩ else s.extract 0 (Utf8.decode s 0).2
theorem dec_sep (s : ByteArray) (h : 0 < s.size) : 1 ≤ (Utf8.decode s 0).2 ∧ (Utf8.decode s 0).2 ≤ s.size ∧ (Utf8.decode s 0).2 ≤ 4 ∧ ∀ j, 1 ≤ j → j < (Utf8.decode s 0).2 → 192 ≤ (s.get! 0).toNat ∧ (s.get! j).toNat < 192 := by
  obtain ⟨h1, h2, h3, h4, h5, h6⟩ := decN_sep (s.size - 0) (s.get! 0).toNat (s.get! (0 + 1)).toNat (s.get! (0 + 2)).toNat (s.get! (0 + 3)).toNat (by omega)
  rw [← decode_at] at h1 h2 h3 h4 h5 h6
  refine ⟨h1, by omega, h3, fun j hj1 hj2 => ?_⟩
  have : j = 1 ∨ j = 2 ∨ j = 3 := by omega
  rcases this with rfl | rfl | rfl
  · exact h4 (by omega)
  · exact ⟨(h4 (by omega)).1, h5 (by omega)⟩
  · exact ⟨(h4 (by omega)).1, h6 (by omega)⟩
theorem sep_size (s : ByteArray) (h : 0 < s.size) : (sepOf s).size = (Utf8.decode s 0).2 := by
  have hd := dec_sep s h
  unfold sepOf
  rw [if_neg (by omega), ByteArray.size_extract]; omega
theorem sep_none (s : ByteArray) (h : s.size = 0) : sepOf s = ⟨#[]⟩ := if_pos h
theorem sep_data (s : ByteArray) (h : 0 < s.size) : (sepOf s).data.toList = s.data.toList.take (Utf8.decode s 0).2 := by
  unfold sepOf
  rw [if_neg (by omega), Lib.extract_data]; simp
theorem get_eq (s : ByteArray) (k : Nat) (h : k < s.size) : s.get! k = s[k] := get_at s k h
theorem sep_hf (s : ByteArray) (h : 0 < s.size) : HF (sepOf s).data.toList := by
  obtain ⟨h1, h2, h3, h4⟩ := dec_sep s h
  rw [sep_data s h]
  have hl : s.data.toList.length = s.size := (Lib.size_eq s).symm
  refine ⟨s.data.toList[0]'(by omega), (s.data.toList.drop 1).take ((Utf8.decode s 0).2 - 1), ?_, ?_⟩
  · have : s.data.toList = s.data.toList[0]'(by omega) :: s.data.toList.drop 1 := by
      have := List.drop_eq_getElem_cons (l := s.data.toList) (i := 0) (by omega)
      simpa using this
    conv => lhs; rw [this]
    rw [List.take_cons (by omega)]
  · intro hm
    obtain ⟨j, hj, he⟩ := List.getElem_of_mem hm
    rw [List.length_take, List.length_drop] at hj
    rw [List.getElem_take, List.getElem_drop] at he
    obtain ⟨g1, g2⟩ := h4 (1 + j) (by omega) (by omega)
    rw [get_eq s 0 (by omega)] at g1
    rw [get_eq s (1 + j) (by omega)] at g2
    have e1 : s.data.toList[1 + j]'(by omega) = s[1 + j]'(by omega) := rfl
    have e2 : s.data.toList[0]'(by omega) = s[0]'(by omega) := rfl
    rw [e1, e2] at he
    rw [he] at g2
    omega
end Go.Proofs.YtcncmbniaabhkaaDoor.plain
