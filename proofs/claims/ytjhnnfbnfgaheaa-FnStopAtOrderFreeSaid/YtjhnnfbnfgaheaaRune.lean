/-
  What strings.IndexRune answers at a text of ASCII bytes and a rune that it does not hold: -1. Conditions: every byte of the text is below 128 and none is the rune.
-/
import Derived.Test.YtjhnnfbnfgaheaaRows
import Derived.Test.YtjhnnfbnfgaheaaChecked
import Derived.WalkKit
import Derived.ProofKit
import Derived.OpenShut
import Derived.Handy
import Derived.WalkMore
import Derived.LoopN
import Derived.Lib.Hide
import Derived.Lib.Bytealg
import Derived.Lib.IndexLaws
import Derived.Lib.Strings
import Derived.Lib.IndexBytes
import Derived.Laws.RangeString
import Derived.Laws.RangeAny
import Derived.Laws.Runes
import Derived.Below
import Derived.WalkSmall
import Derived.BigQuiet
import Derived.Deep.QuietTactic
namespace Go.Proofs.Ytjhnnfbnfgaheaa.runes
open Go.ChangeShapes Go.WideShapes Go.ChangeAt Go.RowKit
set_option linter.unusedVariables false
theorem idx_none (l : List UInt8) (c : UInt8) (h : c ∉ l) : Lib.indexByte l c = -1 := by
  have h1 := Lib.indexByte_ge l c
  by_cases h2 : Lib.indexByte l c = -1
  · exact h2
  · obtain ⟨o, ho⟩ := Int.eq_ofNat_of_zero_le (show 0 ≤ Lib.indexByte l c by omega)
    exact absurd (List.mem_of_getElem? (Lib.indexByte_some ho).1) h
set_option maxHeartbeats 1000000 in
set_option maxRecDepth 100000 in
theorem indexByte39 (s : ByteArray) (c : Int) (w : World) :
    Calls Try.prog 39 #[.string s, .int .u8 c] w fun e w' => e = .returned (.int .i64 (Lib.indexByte s.data.toList c.toNat.toUInt8)) ∧ w' = w := by
  go_enter Try.func39, Try.ntmps39
  go_wp2
  rw [run_callFunc_extern Try.func40 (by kernel_rfl) (by kernel_rfl) (by kernel_rfl) (e := Extern.BytealgIndexByte.indexByte) (by kernel_rfl), Lib.run_indexByteString]
  simp only [Result.andThen]
  rw [Oper.upon_value]
  go_wp2
  go_ret
  exact ⟨rfl, rfl⟩
theorem indexByte35 (s : ByteArray) (c : Int) (w : World) :
    Calls Try.prog 35 #[.string s, .int .u8 c] w fun e w' => e = .returned (.int .i64 (Lib.indexByte s.data.toList c.toNat.toUInt8)) ∧ w' = w := by
  go_enter Try.func35, Try.ntmps35
  go_wp2_with (go_at_call 39; refine (indexByte39 _ _ _).mono ?_; rintro e w' ⟨rfl, hw⟩; rw [hw])
  go_ret
  exact ⟨rfl, rfl⟩
theorem idx35 (s : ByteArray) (c : UInt8) (w : World) (h : c ∉ s.data.toList) :
    Calls Try.prog 35 #[.string s, .int .u8 (c.toNat : Int)] w fun e w' => e = .returned (.int .i64 (-1)) ∧ w' = w := by
  have h1 := indexByte35 s (c.toNat : Int) w
  rw [show ((c.toNat : Int)).toNat.toUInt8 = c by simp, idx_none _ _ h] at h1
  exact h1
theorem validRune36 (r : Int) (h : Utf8.valid r = true) (w : World) :
    Calls Try.prog 36 #[.int .i32 r] w fun e w' => e = .returned (.bool true) ∧ w' = w := by
  rw [validRune_eq] at h
  have h2 : (0 ≤ r ∧ r < 55296) ∨ (57343 < r ∧ r ≤ 1114111) := by simpa [validRune] using h
  clear h
  rcases h2 with ⟨h1, h2⟩ | ⟨h1, h2⟩
  · go_enter Try.func36, Try.ntmps36
    go_wp2
    go_ret
    exact ⟨rfl, rfl⟩
  · go_enter Try.func36, Try.ntmps36
    go_wp2
    go_ret
    exact ⟨rfl, rfl⟩
set_option maxHeartbeats 2000000 in
set_option maxRecDepth 1000000 in
/-- the rune is an ASCII one that the text does not hold -/
theorem rune_low (s : ByteArray) (r : Int) (h0 : 0 ≤ r) (h1 : r < 128) (hn : r.toNat.toUInt8 ∉ s.data.toList) (w : World) :
    Calls Try.prog 31 #[.string s, .int .i32 r] w fun e w' => e = .returned (.int .i64 (-1)) ∧ Below w.heap.size w w' := by
  go_enter Try.func31, Try.ntmps31
  go_wp2_with (go_at_call 35; refine (indexByte35 _ _ _).mono ?_; rintro e w' ⟨rfl, hw⟩; rw [hw, idx_none _ _ hn])
  go_ret
  exact ⟨rfl, Below.refl _ _⟩
set_option maxHeartbeats 2000000 in
set_option maxRecDepth 1000000 in
theorem rune_fffd (s : ByteArray) (hA : ∀ (i : Nat) (h : i < s.size), s[i].toNat < 128) (w : World) :
    Calls Try.prog 31 #[.string s, .int .i32 65533] w fun e w' => e = .returned (.int .i64 (-1)) ∧ Below w.heap.size w w' := by
  go_enter Try.func31, Try.ntmps31
  go_wp2
  go_loopw [4] (fun x wr => x = .int .i64 0 ∧ ∃ pos : Nat, wr = w.iter s pos) (fun _ wr => s.size - wr.iterPos w.heap.size)
  case atStart => exact ⟨rfl, 0, rfl⟩
  case round =>
    obtain ⟨rfl, pos, rfl⟩ := hrel
    by_cases hlt : pos < s.size
    · have hx := hA pos hlt
      have hnx := fun ty => run_next_ascii (P := Try.prog) w s pos ty hlt hx
      have e1 : ((s[pos].toNat : Int) == 65533) = false := by simp; omega
      go_wp2
      go_roundw
      case rel => exact ⟨rfl, _, rfl⟩
      case measure => simp; omega
    · have hnx := fun ty => run_next_end (P := Try.prog) w s pos ty hlt
      go_wp2
      go_ret
      exact ⟨rfl, (Below.refl _ _).alloc (Nat.le_refl _) _⟩
set_option maxHeartbeats 2000000 in
set_option maxRecDepth 1000000 in
theorem rune_high (s : ByteArray) (r : Int) (hv : Utf8.valid r = true) (h1 : 128 ≤ r) (h2 : r ≠ 65533) (hs : s.size ≤ 1099511627776) (hA : ∀ b ∈ s.data.toList, b.toNat < 128) (w : World) :
    Calls Try.prog 31 #[.string s, .int .i32 r] w fun e w' => e = .returned (.int .i64 (-1)) ∧ Below w.heap.size w w' := by
  obtain ⟨f1, f2, f3⟩ := encode_facts r hv h1
  generalize ht : Utf8.encode r = t at f1 f2 f3
  obtain ⟨l, hl⟩ : ∃ l, t.size = l + 1 := ⟨t.size - 1, by omega⟩
  have hl1 : 1 ≤ l ∧ l ≤ 3 := by omega
  have f4 : ∀ h : l < t.size, 128 ≤ (t[l]'h).toNat := by
    intro h
    have := f3 (by omega)
    simpa [hl] using this
  have f5 := f4 (by omega)
  clear f3 f4 f1 f2
  go_enter Try.func31, Try.ntmps31
  go_wp2_with (go_at_call 36; refine (validRune36 _ hv _).mono ?_; rintro e w' ⟨rfl, hw⟩; rw [hw])
  go_step3
  go_wp2_with fail
  refine wp_loop_rounds 1 ?_
  rw [rounds_succ]
  by_cases hls : l < s.size
  · have hb : s[l].toNat < 128 := hA s[l] (List.mem_of_getElem? (Lib.data_getElem? s l hls))
    have e1 : ((s[l].toNat : Int) != (t[l].toNat : Int)) = true := by simp; omega
    go_wp2
    go_step3
    go_wp2
    have g1 : (l : Int) < (s.size : Int) := by omega
    have g2 : (l : Int) < (l : Int) + 1 := by omega
    go_quiet (fail)
    have hn : t[l] ∉ (s.extract (l + 1) s.size).data.toList := fun h => by
      have := hA _ (mem_extract h)
      omega
    have hcall := fun w => idx35 (s.extract (l + 1) s.size) t[l] w hn
    have g3 : (l : Int) + 1 ≤ (s.size : Int) := by omega
    go_wp2
    generalize hW : World.drewN _ _ = w2
    go_quiet ((go_at_call 35; refine Calls.quiet_of_same (hcall _)))
    go_wp2
    try rw [Exit.noGoto_ret]
    go_wp2
    try rw [Exit.noGoto_ret]
    go_ret
    subst hW
    exact ⟨rfl, below_drewN (below_drewN (Below.refl _ _) _) _⟩
  · go_wp2
    try rw [Exit.noGoto_ret]
    go_ret
    exact ⟨rfl, Below.refl _ _⟩
end Go.Proofs.Ytjhnnfbnfgaheaa.runes
