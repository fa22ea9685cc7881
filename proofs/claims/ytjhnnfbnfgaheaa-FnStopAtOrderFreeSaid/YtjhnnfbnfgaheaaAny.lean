/-
  What strings.ContainsAny answers at a text of at most 8 bytes that holds none of the bytes of an ASCII list of two or more: false. Conditions: as said.
-/
import Derived.Test.YtjhnnfbnfgaheaaRune
import Derived.Lib.OthersKept
import Derived.Lib.DecodeN
import Derived.Lib.TrimU
namespace Go.Proofs.Ytjhnnfbnfgaheaa.runes
open Go.ChangeShapes Go.WideShapes Go.ChangeAt Go.RowKit
set_option linter.unusedVariables false
open Go.Lib (decodeN decode_at)
set_option maxRecDepth 100000 in
set_option maxHeartbeats 4000000 in
theorem decN_ok (n b0 b1 b2 b3 : Nat) (h0 : b0 < 256) : ((decodeN n b0 b1 b2 b3).1 < 128 → (decodeN n b0 b1 b2 b3).1 = b0 ∧ b0 < 128) ∧ ((decodeN n b0 b1 b2 b3).1 < 55296 ∨ (57343 < (decodeN n b0 b1 b2 b3).1 ∧ (decodeN n b0 b1 b2 b3).1 ≤ 1114111)) := by
  unfold decodeN
  repeat' split
  all_goals simp only
  all_goals first | omega | (refine ⟨fun h => ⟨?_, ?_⟩, ?_⟩ <;> first | trivial | omega)
theorem dec_valid (s : ByteArray) (pos : Nat) : Utf8.valid ((Utf8.decode s pos).1 : Int) = true := by
  have h := (decN_ok (s.size - pos) (s.get! pos).toNat (s.get! (pos + 1)).toNat (s.get! (pos + 2)).toNat (s.get! (pos + 3)).toNat (UInt8.toNat_lt _)).2
  rw [← decode_at] at h
  rw [validRune_eq]
  simp only [validRune, decide_eq_true_eq]
  omega
theorem dec_low (s : ByteArray) (pos : Nat) (h : (Utf8.decode s pos).1 < 128) (hp : pos < s.size) : (((Utf8.decode s pos).1 : Nat) : Int).toNat.toUInt8 ∈ s.data.toList := by
  have h2 := (decN_ok (s.size - pos) (s.get! pos).toNat (s.get! (pos + 1)).toNat (s.get! (pos + 2)).toNat (s.get! (pos + 3)).toNat (UInt8.toNat_lt _)).1
  rw [← decode_at] at h2
  rw [(h2 h).1]
  have h3 : s.get! pos = s[pos] := get_at s pos hp
  rw [h3]
  simp only [Int.toNat_natCast]
  rw [show s[pos].toNat.toUInt8 = s[pos] by simp]
  exact List.mem_of_getElem? (Lib.data_getElem? s pos hp)
theorem should32 (n : Int) (h : n ≤ 8) (w : World) : Calls Try.prog 32 #[.int .i64 n] w fun e w' => e = .returned (.bool false) ∧ w = w' := by
  have e1 : decide ((8 : Int) < n) = false := decide_eq_false (by omega)
  go_enter Try.func32, Try.ntmps32
  go_wp2
  go_ret
  exact ⟨rfl, rfl⟩
theorem rune_none (s c : ByteArray) (pos : Nat) (hp : pos < s.size) (hcs : c.size ≤ 1099511627776) (hA : ∀ b ∈ c.data.toList, b.toNat < 128) (hno : ∀ b ∈ s.data.toList, b ∉ c.data.toList) (w : World) :
    Calls Try.prog 31 #[.string c, .int .i32 ((Utf8.decode s pos).1 : Int)] w fun e w' => e = .returned (.int .i64 (-1)) ∧ Below w.heap.size w w' := by
  by_cases h1 : (Utf8.decode s pos).1 < 128
  · exact rune_low c _ (by omega) (by omega) (hno _ (dec_low s pos h1 hp)) w
  · by_cases h2 : (Utf8.decode s pos).1 = 65533
    · rw [h2]
      exact rune_fffd c (fun i hi => hA _ (List.mem_of_getElem? (Lib.data_getElem? c i hi))) w
    · exact rune_high c _ (dec_valid s pos) (by omega) (by omega) hcs hA w
set_option maxHeartbeats 4000000 in
set_option maxRecDepth 1000000 in
theorem any_none (s c : ByteArray) (hs : s.size ≤ 8) (h2 : 2 ≤ c.size) (hcs : c.size ≤ 1099511627776) (hA : ∀ b ∈ c.data.toList, b.toNat < 128) (hno : ∀ b ∈ s.data.toList, b ∉ c.data.toList) (w : World) :
    Calls Try.prog 30 #[.string s, .string c] w fun e w' => e = .returned (.int .i64 (-1)) ∧ Below w.heap.size w w' := by
  have hcall := fun pos hp w => rune_none s c pos hp hcs hA hno w
  clear hA hno
  have HC := Lib.hid hcall
  clear hcall
  have e1 : c.toList.isEmpty = false := by
    rw [Lib.toList_data]
    cases h : c.data.toList with
    | nil => have := Lib.size_eq c; rw [h, List.length_nil] at this; omega
    | cons _ _ => rfl
  have e2 : ((c.size : Int) == 1) = false := beq_eq_false_iff_ne.2 (by omega)
  go_enter Try.func30, Try.ntmps30
  go_wp2_with (go_at_call 32; refine (should32 _ (by omega) _).mono ?_; rintro e w' ⟨rfl, rfl⟩)
  go_loopw [4] (fun x wr => x = .int .i64 0 ∧ ∃ pos : Nat, wr.heap[w.heap.size]? = some (.stringIter s pos) ∧ Below w.heap.size w wr) (fun _ wr => s.size - wr.iterPos w.heap.size)
  case atStart => exact ⟨rfl, 0, by have := World.iter_heap w s 0; simpa using this, (Below.refl _ _).alloc (Nat.le_refl _) _⟩
  case round =>
    obtain ⟨rfl, pos, hit, hb⟩ := hrel
    by_cases hlt : pos < s.size
    · have hnx : ∀ ty, (Instr.next (.pointer (some ⟨w.heap.size, 0, none⟩)) true ty).run Try.prog wr = _ := fun ty => Lib.run_next_any_at wr w.heap.size s pos ty hit hlt
      have hwd := Lib.width_pos s pos
      have hit2 := Lib.iterAt_heap wr w.heap.size s pos (pos + (Utf8.decode s pos).2) hit
      have hb2 := Lib.below_iterAt hb (k := w.heap.size) (Nat.le_refl _) s (pos + (Utf8.decode s pos).2)
      have hsz : w.heap.size < wr.heap.size := (Array.getElem?_eq_some_iff.1 hit).1
      have hsz2 : w.heap.size < (wr.iterAt w.heap.size s (pos + (Utf8.decode s pos).2)).heap.size := by rw [Lib.iterAt_size]; omega
      go_wp2_with (go_at_call 31; refine (HC.out pos hlt _).mono ?_; rintro e W1 ⟨rfl, hb3⟩)
      have hit3 : W1.heap[w.heap.size]? = some (.stringIter s (pos + (Utf8.decode s pos).2)) := (hb3.block _ hsz2).trans hit2
      go_wp2
      go_roundw
      case rel => exact ⟨rfl, _, hit3, hb2.trans (hb3.mono (by omega))⟩
      case measure => simp only [World.iterPos, hit3, hit]; omega
    · have hnx : ∀ ty, (Instr.next (.pointer (some ⟨w.heap.size, 0, none⟩)) true ty).run Try.prog wr = _ := fun ty => Lib.run_next_end_at wr w.heap.size s pos ty hit hlt
      go_wp2
      go_ret
      exact ⟨rfl, hb⟩
theorem contains_none (s c : ByteArray) (hs : s.size ≤ 8) (h2 : 2 ≤ c.size) (hcs : c.size ≤ 1099511627776) (hA : ∀ b ∈ c.data.toList, b.toNat < 128) (hno : ∀ b ∈ s.data.toList, b ∉ c.data.toList) (w : World) :
    Calls Try.prog 24 #[.string s, .string c] w fun e w' => e = .returned (.bool false) ∧ Below w.heap.size w w' := by
  go_enter Try.func24, Try.ntmps24
  go_wp2_with (go_at_call 30; refine (any_none s c hs h2 hcs hA hno _).mono ?_; rintro e W1 ⟨rfl, hb⟩)
  go_ret
  exact ⟨rfl, hb⟩
end Go.Proofs.Ytjhnnfbnfgaheaa.runes
