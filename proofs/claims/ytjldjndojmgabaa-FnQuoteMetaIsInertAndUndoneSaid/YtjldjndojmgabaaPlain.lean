/-
  Plain facts on byte lists and on the model's rune decoder: quoting rune by rune, unquoting, the scan for live metacharacters. No program in sight.
-/
import Derived.WalkKit
import Derived.Lib.DecodeN
import Derived.Lib.TrimU
import Derived.Lib.RuneLoops
import Derived.Laws.RangeAny
namespace Go.Proofs.Ytjldjndojmgabaa.plain
open Go.RowKit
set_option linter.unusedVariables false

/-! ### the scan for live metacharacters -/
def runGo : List UInt8 → Bool → Bool → Bool
  | [], _, _ => false
  | c :: r, p, o =>
    if p then runGo r false o
    else if c = 92 then runGo r true o
    else if c = 42 ∨ c = 63 then true
    else if c = 91 then runGo r false true
    else if c = 93 then (if o then true else runGo r false o)
    else runGo r false o
theorem run_bs (r : List UInt8) (o : Bool) : runGo (92 :: r) false o = runGo (r.drop 1) false o := by
  cases r with
  | nil => simp [runGo]
  | cons d r' => simp [runGo]
theorem run_star (c : UInt8) (r : List UInt8) (o : Bool) (h : c = 42 ∨ c = 63) : runGo (c :: r) false o = true := by
  rcases h with rfl | rfl <;> simp [runGo]
theorem run_open (r : List UInt8) (o : Bool) : runGo (91 :: r) false o = runGo r false true := by simp [runGo]
theorem run_shut (r : List UInt8) : runGo (93 :: r) false true = true := by simp [runGo]
theorem run_shut' (r : List UInt8) : runGo (93 :: r) false false = runGo r false false := by simp [runGo]
theorem run_other (c : UInt8) (r : List UInt8) (o : Bool) (h1 : c ≠ 92) (h2 : c ≠ 42) (h3 : c ≠ 63) (h4 : c ≠ 91) (h5 : c ≠ 93) : runGo (c :: r) false o = runGo r false o := by
  simp [runGo, h1, h2, h3, h4, h5]
theorem run_nil (p o : Bool) : runGo [] p o = false := rfl

/-! ### unquoting -/
def unq : List UInt8 → List UInt8
  | [] => []
  | [c] => [c]
  | c :: d :: r => if c = 92 then d :: unq r else c :: unq (d :: r)
theorem unq_one (c : UInt8) : unq [c] = [c] := by simp [unq]
theorem unq_bs (d : UInt8) (r : List UInt8) : unq (92 :: d :: r) = d :: unq r := by simp [unq]
theorem unq_other (c : UInt8) (r : List UInt8) (h : c ≠ 92) : unq (c :: r) = c :: unq r := by
  cases r with
  | nil => simp [unq]
  | cons d r => simp [unq, h]
theorem unq_le : ∀ (n : Nat) (l : List UInt8), l.length ≤ n → (unq l).length ≤ l.length
  | 0, l, h => by have : l = [] := List.eq_nil_of_length_eq_zero (by omega); subst this; simp [unq]
  | n + 1, l, h => by
    match l with
    | [] => simp [unq]
    | [c] => simp [unq]
    | c :: d :: r =>
      unfold unq
      have h1 := unq_le n r (by simp at h; omega)
      have h2 := unq_le n (d :: r) (by simp at h ⊢; omega)
      split <;> simp at h1 h2 ⊢ <;> omega

/-! ### bytes that are no metacharacter -/
def low (c : UInt8) : Prop := c ≠ 92 ∧ c ≠ 42 ∧ c ≠ 63 ∧ c ≠ 91
theorem run_plain (l r : List UInt8) (h : ∀ c ∈ l, low c) : runGo (l ++ r) false false = runGo r false false := by
  induction l with
  | nil => rfl
  | cons c l ih =>
    obtain ⟨h1, h2, h3, h4⟩ := h c (by simp)
    have ih := ih (fun d hd => h d (by simp [hd]))
    by_cases h5 : c = 93
    · subst h5; rw [List.cons_append, run_shut', ih]
    · rw [List.cons_append, run_other c _ _ h1 h2 h3 h4 h5, ih]
theorem unq_plain (l r : List UInt8) (h : ∀ c ∈ l, low c) : unq (l ++ r) = l ++ unq r := by
  induction l with
  | nil => rfl
  | cons c l ih =>
    obtain ⟨h1, h2, h3, h4⟩ := h c (by simp)
    rw [List.cons_append, unq_other c _ h1, ih (fun d hd => h d (by simp [hd])), List.cons_append]

/-! ### the decoder -/
open Go.Lib (decodeN decode_at encodeRune encodeRuneZ runesFrom)
set_option maxRecDepth 100000 in
set_option maxHeartbeats 4000000 in
theorem decN_width (n b0 b1 b2 b3 : Nat) (hn : 1 ≤ n) : 1 ≤ (decodeN n b0 b1 b2 b3).2 ∧ (decodeN n b0 b1 b2 b3).2 ≤ n := by
  unfold decodeN
  repeat' split
  all_goals simp only
  all_goals omega
set_option maxRecDepth 100000 in
set_option maxHeartbeats 4000000 in
theorem decN_len (n b0 b1 b2 b3 : Nat) (h0 : b0 < 256) : (decodeN n b0 b1 b2 b3).2 ≤ (encodeRuneZ ((decodeN n b0 b1 b2 b3).1 : Int)).length := by
  unfold decodeN
  repeat' split
  all_goals simp only [encodeRuneZ]
  all_goals repeat' split
  all_goals simp only [List.length_cons, List.length_nil]
  all_goals omega
set_option maxRecDepth 100000 in
set_option maxHeartbeats 4000000 in
theorem decN_cont (n b0 b1 b2 b3 : Nat) : (1 < (decodeN n b0 b1 b2 b3).2 → 128 ≤ b1) ∧ (2 < (decodeN n b0 b1 b2 b3).2 → 128 ≤ b2) ∧ (3 < (decodeN n b0 b1 b2 b3).2 → 128 ≤ b3) ∧ (decodeN n b0 b1 b2 b3).2 ≤ 4 := by
  unfold decodeN
  repeat' split
  all_goals simp only
  all_goals omega
theorem get_eq (s : ByteArray) (k : Nat) (h : k < s.size) : s.get! k = s[k] := get_at s k h
theorem enc_low (r : Nat) (h : r < 128) : encodeRune (r : Int) = [r.toUInt8] := by
  simp [encodeRune, Lib.encodeRuneZ_one (r := (r : Int)) (by omega) (by omega)]
theorem enc_high (r : Nat) (h : 128 ≤ r) : ∀ c ∈ encodeRune (r : Int), 128 ≤ c.toNat := by
  intro c hc
  unfold encodeRune at hc
  obtain ⟨x, hx, rfl⟩ := List.mem_map.1 hc
  have hb := Lib.encodeRuneZ_byte _ x hx
  have : 128 ≤ x := by
    unfold encodeRuneZ at hx
    repeat' split at hx
    all_goals simp at hx
    all_goals omega
  simp only [Nat.toUInt8, UInt8.toNat_ofNat']
  omega
theorem low_of_high (c : UInt8) (h : 128 ≤ c.toNat) : low c := by
  refine ⟨?_, ?_, ?_, ?_⟩ <;> (intro e; subst e; simp at h)

/-! ### quoting rune by rune -/
def spec (r : Nat) : Bool := r == 42 || r == 63 || r == 91 || r == 92
def quoteFrom (s : ByteArray) : Nat → Nat → List UInt8
  | 0, _ => []
  | f + 1, pos => if pos < s.size then (if spec (Utf8.decode s pos).1 then [92] else []) ++ (encodeRune ((Utf8.decode s pos).1 : Int) ++ quoteFrom s f (pos + (Utf8.decode s pos).2)) else []
def anyFrom (s : ByteArray) : Nat → Nat → Bool
  | 0, _ => false
  | f + 1, pos => if pos < s.size then (if spec (Utf8.decode s pos).1 then true else anyFrom s f (pos + (Utf8.decode s pos).2)) else false
theorem quoteFrom_end (s : ByteArray) (f pos : Nat) (h : ¬ pos < s.size) : quoteFrom s f pos = [] := by cases f <;> simp [quoteFrom, h]
theorem anyFrom_end (s : ByteArray) (f pos : Nat) (h : ¬ pos < s.size) : anyFrom s f pos = false := by cases f <;> simp [anyFrom, h]
def quoteB (s : ByteArray) : ByteArray := if anyFrom s s.size 0 then ⟨(quoteFrom s s.size 0).toArray⟩ else s
theorem spec_low (r : Nat) (h : spec r = true) : r < 128 := by simp [spec] at h; omega
theorem enc_piece (r : Nat) : (spec r = false ∧ ∀ c ∈ encodeRune (r : Int), low c) ∨ (spec r = true ∧ encodeRune (r : Int) = [r.toUInt8]) := by
  cases h : spec r
  · left
    refine ⟨rfl, ?_⟩
    by_cases hr : r < 128
    · rw [enc_low r hr]
      intro c hc
      simp at hc
      subst hc
      simp [spec] at h
      have e : (UInt8.ofNat r).toNat = r := by simp; omega
      refine ⟨?_, ?_, ?_, ?_⟩ <;> (intro e2; rw [e2] at e; simp at e; omega)
    · intro c hc
      exact low_of_high c (enc_high r (by omega) c hc)
  · right
    exact ⟨rfl, enc_low r (spec_low r h)⟩
theorem quote_run (s : ByteArray) : ∀ f pos, runGo (quoteFrom s f pos) false false = false
  | 0, _ => rfl
  | f + 1, pos => by
    have ih := quote_run s f (pos + (Utf8.decode s pos).2)
    unfold quoteFrom
    split
    · rcases enc_piece (Utf8.decode s pos).1 with ⟨h, hl⟩ | ⟨h, hl⟩
      · rw [h]
        simp only [Bool.false_eq_true, if_false, List.nil_append]
        rw [run_plain _ _ hl, ih]
      · rw [h, hl]
        simp only [if_true, List.singleton_append]
        rw [run_bs, List.drop_succ_cons, List.drop_zero, ih]
    · rfl
theorem quote_unq (s : ByteArray) : ∀ f pos, unq (quoteFrom s f pos) = runesFrom s f pos
  | 0, _ => rfl
  | f + 1, pos => by
    have ih := quote_unq s f (pos + (Utf8.decode s pos).2)
    unfold quoteFrom runesFrom
    split
    · rcases enc_piece (Utf8.decode s pos).1 with ⟨h, hl⟩ | ⟨h, hl⟩
      · rw [h]
        simp only [Bool.false_eq_true, if_false, List.nil_append]
        rw [unq_plain _ _ hl, ih]
      · rw [h, hl]
        simp only [if_true, List.singleton_append]
        rw [unq_bs, ih]
    · rfl
theorem decode_len (s : ByteArray) (pos : Nat) : (Utf8.decode s pos).2 ≤ (encodeRune ((Utf8.decode s pos).1 : Int)).length := by
  rw [decode_at]
  simp only [encodeRune, List.length_map]
  exact decN_len _ _ _ _ _ (UInt8.toNat_lt _)
theorem quote_len (s : ByteArray) : ∀ f pos, s.size ≤ pos + f → s.size - pos ≤ (quoteFrom s f pos).length
  | 0, pos, h => by simp [quoteFrom]; omega
  | f + 1, pos, h => by
    have hw := Lib.width_pos s pos
    have ih := quote_len s f (pos + (Utf8.decode s pos).2) (by omega)
    have hl := decode_len s pos
    unfold quoteFrom
    split
    · simp only [List.length_append]; omega
    · simp; omega
theorem quote_max (s : ByteArray) : ∀ f pos, (quoteFrom s f pos).length ≤ 5 * f
  | 0, pos => by simp [quoteFrom]
  | f + 1, pos => by
    have ih := quote_max s f (pos + (Utf8.decode s pos).2)
    have h4 := Lib.runeCells_le ((Utf8.decode s pos).1 : Int)
    rw [Lib.runeCells_length] at h4
    unfold quoteFrom
    split
    · simp only [List.length_append]
      split <;> simp <;> omega
    · simp

/-! ### a text with no special rune -/
theorem any_bytes (s : ByteArray) : ∀ f pos, s.size ≤ pos + f → anyFrom s f pos = false → ∀ j (hj : j < s.size), pos ≤ j → low s[j]
  | 0, pos, h, _, j, hj, hp => by omega
  | f + 1, pos, h, ha, j, hj, hp => by
    have hw := Lib.width_pos s pos
    have hlt : pos < s.size := by omega
    unfold anyFrom at ha
    rw [if_pos hlt] at ha
    cases hsp : spec (Utf8.decode s pos).1
    · rw [hsp] at ha
      simp only [Bool.false_eq_true, if_false] at ha
      by_cases hj2 : pos + (Utf8.decode s pos).2 ≤ j
      · exact any_bytes s f _ (by omega) ha j hj hj2
      · by_cases he : j = pos
        · subst he
          by_cases h8 : (s[j]).toNat < 128
          · rw [decode_ascii s j hj h8] at hsp
            simp [spec] at hsp
            refine ⟨?_, ?_, ?_, ?_⟩ <;> (intro e2; rw [e2] at hsp; simp at hsp)
          · exact low_of_high _ (by omega)
        · have hc := decN_cont (s.size - pos) (s.get! pos).toNat (s.get! (pos + 1)).toNat (s.get! (pos + 2)).toNat (s.get! (pos + 3)).toNat
          rw [← decode_at] at hc
          have hg := get_eq s j hj
          apply low_of_high
          rw [← hg]
          have : j = pos + 1 ∨ j = pos + 2 ∨ j = pos + 3 := by omega
          rcases this with rfl | rfl | rfl
          · exact hc.1 (by omega)
          · exact hc.2.1 (by omega)
          · exact hc.2.2.1 (by omega)
    · rw [hsp] at ha
      simp at ha
theorem low_list (s : ByteArray) (h : anyFrom s s.size 0 = false) : ∀ c ∈ s.data.toList, low c := by
  intro c hc
  obtain ⟨j, hj, rfl⟩ := List.getElem_of_mem hc
  exact any_bytes s s.size 0 (by omega) h j (by simpa using hj) (by omega)
theorem quoteB_run (s : ByteArray) : runGo (quoteB s).data.toList false false = false := by
  unfold quoteB
  split
  · simpa using quote_run s s.size 0
  · rename_i h
    have := run_plain s.data.toList [] (low_list s (by simpa using h))
    rw [List.append_nil] at this
    rw [this]; rfl
theorem quoteB_size (s : ByteArray) : s.size ≤ (quoteB s).size ∧ (quoteB s).size ≤ 5 * s.size := by
  unfold quoteB
  split
  · have h1 := quote_len s s.size 0 (by omega)
    have h2 := quote_max s s.size 0
    simp only [ByteArray.size, List.size_toArray] at h1 h2 ⊢
    omega
  · omega
theorem quoteB_unq (s : ByteArray) (h : runesFrom s s.size 0 = s.data.toList) : unq (quoteB s).data.toList = s.data.toList := by
  unfold quoteB
  split
  · rw [← h]; simpa using quote_unq s s.size 0
  · rename_i h2
    have := unq_plain s.data.toList [] (low_list s (by simpa using h2))
    rw [List.append_nil] at this
    rw [this]; simp [unq]

/-! ### a text that the law's own test accepts -/
def okAt (s : ByteArray) (i : Nat) : Prop := (∀ f, s.size ≤ i + f → runesFrom s f i = s.data.toList.drop i) → runesFrom s s.size 0 = s.data.toList
theorem okAt_start (s : ByteArray) : okAt s 0 := fun h => by simpa using h s.size (by omega)
theorem okAt_end (s : ByteArray) (i : Nat) (hi : s.size ≤ i) (h : okAt s i) : runesFrom s s.size 0 = s.data.toList :=
  h fun f _ => by rw [Lib.runesFrom_end s f i (by omega), List.drop_eq_nil_of_le (by simpa using hi)]
theorem okAt_step (s : ByteArray) (i d : Nat) (hi : i < s.size) (hd : (Utf8.decode s i).2 = d) (he : encodeRune ((Utf8.decode s i).1 : Int) = (s.data.toList.drop i).take d) (h : okAt s i) : okAt s (i + d) := by
  intro hn
  apply h
  intro f hf
  obtain ⟨f, rfl⟩ : ∃ g, f = g + 1 := ⟨f - 1, by omega⟩
  have hw := Lib.width_pos s i
  unfold runesFrom
  rw [if_pos hi, he, hd, hn f (by omega), ← List.drop_drop, List.take_append_drop]
theorem drop_get (s : ByteArray) (i : Nat) (h : i < s.size) : s.data.toList.drop i = s.get! i :: s.data.toList.drop (i + 1) := by
  rw [List.drop_eq_getElem_cons (by simpa using h), get_eq s i h]; rfl
theorem okAt_one (s : ByteArray) (i : Nat) (hi : i < s.size) (h8 : (s.get! i).toNat < 128) (h : okAt s i) : okAt s (i + 1) := by
  have hd := decode_ascii s i hi (by rw [← get_eq s i hi]; exact h8)
  refine okAt_step s i 1 hi (by rw [hd]) ?_ h
  rw [hd, drop_get s i hi, get_eq s i hi, enc_low _ (by rw [← get_eq s i hi]; exact h8)]
  simp
theorem toU8 (n : Nat) (c : UInt8) (h : n = c.toNat) : n.toUInt8 = c := by subst h; simp
theorem okAt_two (s : ByteArray) (i : Nat) (hi : i + 2 ≤ s.size) (h0 : (s.get! i).toNat / 32 = 6) (h1 : (s.get! (i + 1)).toNat / 64 = 2) (hr : 128 ≤ (s.get! i).toNat % 32 * 64 + (s.get! (i + 1)).toNat % 64) (h : okAt s i) : okAt s (i + 2) := by
  have hd : Utf8.decode s i = ((s.get! i).toNat % 32 * 64 + (s.get! (i + 1)).toNat % 64, 2) := by
    rw [decode_at, decodeN, if_neg (by omega), if_pos ⟨h0, by omega, h1⟩, if_pos hr]
  refine okAt_step s i 2 (by omega) (by rw [hd]) ?_ h
  rw [hd, drop_get s i (by omega), drop_get s (i + 1) (by omega)]
  simp only [List.take_succ_cons, List.take_zero, encodeRune]
  rw [Lib.encodeRuneZ_two (by omega) (by omega)]
  simp only [List.map_cons, List.map_nil]
  rw [toU8 _ (s.get! i) (by omega), toU8 _ (s.get! (i + 1)) (by omega)]
theorem okAt_three (s : ByteArray) (i : Nat) (hi : i + 3 ≤ s.size) (h0 : (s.get! i).toNat / 16 = 14) (h1 : (s.get! (i + 1)).toNat / 64 = 2) (h2 : (s.get! (i + 2)).toNat / 64 = 2)
    (r : Nat) (er : r = (s.get! i).toNat % 16 * 4096 + (s.get! (i + 1)).toNat % 64 * 64 + (s.get! (i + 2)).toNat % 64) (hr : 2048 ≤ r) (hs : r < 55296 ∨ 57343 < r) (h : okAt s i) : okAt s (i + 3) := by
  have hd : Utf8.decode s i = (r, 3) := by
    rw [decode_at, decodeN, if_neg (by omega), if_neg (by omega), if_pos ⟨h0, ⟨by omega, h1⟩, by omega, h2⟩, if_pos (by omega), er]
  refine okAt_step s i 3 (by omega) (by rw [hd]) ?_ h
  rw [hd, drop_get s i (by omega), drop_get s (i + 1) (by omega), drop_get s (i + 2) (by omega)]
  simp only [List.take_succ_cons, List.take_zero, encodeRune]
  rw [Lib.encodeRuneZ_three (by omega)]
  simp only [List.map_cons, List.map_nil]
  rw [toU8 _ (s.get! i) (by omega), toU8 _ (s.get! (i + 1)) (by omega), toU8 _ (s.get! (i + 2)) (by omega)]
theorem okAt_four (s : ByteArray) (i : Nat) (hi : i + 4 ≤ s.size) (h0 : (s.get! i).toNat / 8 = 30) (h1 : (s.get! (i + 1)).toNat / 64 = 2) (h2 : (s.get! (i + 2)).toNat / 64 = 2) (h3 : (s.get! (i + 3)).toNat / 64 = 2)
    (r : Nat) (er : r = (s.get! i).toNat % 8 * 262144 + (s.get! (i + 1)).toNat % 64 * 4096 + (s.get! (i + 2)).toNat % 64 * 64 + (s.get! (i + 3)).toNat % 64) (hr : 65536 ≤ r) (hs : r ≤ 1114111) (h : okAt s i) : okAt s (i + 4) := by
  have hd : Utf8.decode s i = (r, 4) := by
    rw [decode_at, decodeN, if_neg (by omega), if_neg (by omega), if_neg (by omega), if_pos ⟨h0, ⟨by omega, h1⟩, ⟨by omega, h2⟩, by omega, h3⟩, if_pos (by omega), er]
  refine okAt_step s i 4 (by omega) (by rw [hd]) ?_ h
  rw [hd, drop_get s i (by omega), drop_get s (i + 1) (by omega), drop_get s (i + 2) (by omega), drop_get s (i + 3) (by omega)]
  simp only [List.take_succ_cons, List.take_zero, encodeRune]
  rw [Lib.encodeRuneZ_four (by omega) (by omega)]
  simp only [List.map_cons, List.map_nil]
  rw [toU8 _ (s.get! i) (by omega), toU8 _ (s.get! (i + 1)) (by omega), toU8 _ (s.get! (i + 2)) (by omega), toU8 _ (s.get! (i + 3)) (by omega)]
end Go.Proofs.Ytjldjndojmgabaa.plain
