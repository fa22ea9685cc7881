/-
  What pattern.QuoteMeta answers, for every text of at most 2^40 bytes and every mode: quoteB of the text. What was in memory before stays.
-/
import Derived.Test.YtjldjndojmgabaaRune
import Derived.Test.YtjldjndojmgabaaShelf
import Derived.Test.YtjldjndojmgabaaPlain
import Derived.Laws.RangeString
import Derived.WalkMore
namespace Go.Proofs.Ytjldjndojmgabaa.quote
open Go.ChangeShapes Go.WideShapes Go.ChangeAt Go.RowKit Go.Proofs.Ytjldjndojmgabaa.plain Go.Proofs.Ytjldjndojmgabaa.build
set_option linter.unusedVariables false
def anyRel (s : ByteArray) (pos : Nat) : Prop := ∃ f, s.size ≤ pos + f ∧ anyFrom s f pos = anyFrom s s.size 0
theorem anyRel_start (s : ByteArray) : anyRel s 0 := ⟨s.size, by omega, rfl⟩
theorem anyRel_end {s : ByteArray} {pos : Nat} (h : anyRel s pos) (hp : ¬ pos < s.size) : quoteB s = s := by
  obtain ⟨f, _, h⟩ := h
  rw [anyFrom_end s f pos hp] at h
  rw [quoteB, ← h]; rfl
theorem anyRel_yes {s : ByteArray} {pos : Nat} (h : anyRel s pos) (hp : pos < s.size) (hs : spec (Utf8.decode s pos).1 = true) : quoteB s = ⟨(quoteFrom s s.size 0).toArray⟩ := by
  obtain ⟨f, hf, h⟩ := h
  obtain ⟨f, rfl⟩ : ∃ g, f = g + 1 := ⟨f - 1, by omega⟩
  rw [anyFrom, if_pos hp, if_pos hs] at h
  rw [quoteB, if_pos h.symm]
theorem anyRel_no {s : ByteArray} {pos : Nat} (h : anyRel s pos) (hp : pos < s.size) (hs : spec (Utf8.decode s pos).1 = false) : anyRel s (pos + (Utf8.decode s pos).2) := by
  obtain ⟨f, hf, h⟩ := h
  obtain ⟨f, rfl⟩ : ∃ g, f = g + 1 := ⟨f - 1, by omega⟩
  rw [anyFrom, if_pos hp, hs] at h
  have hw := Lib.width_pos s pos
  exact ⟨f, by omega, by simpa using h⟩
theorem ret_string {a b : ByteArray} (h : a = b) : Ending.returned (.string a) = .returned (.string b) := by rw [h]
set_option maxHeartbeats 6400000 in
set_option maxRecDepth 1000000 in
theorem quoteMeta_any (s : ByteArray) (m : Int) (hs : s.size ≤ 1099511627776) (w : World) :
    Calls Try.prog 5 #[.string s, .int .u64 m] w fun e w' => e = .returned (.string (quoteB s)) ∧ Below w.heap.size w w' := by
  go_enter Try.func5, Try.ntmps5
  go_wp2
  go_step3
  go_wp2
  go_step3
  go_wp2
  go_loopw [5] (fun x wr => x = .bool false ∧ ∃ pos : Nat, wr = w.iter s pos ∧ anyRel s pos) (fun _ wr => s.size - wr.iterPos w.heap.size)
  case atStart => exact ⟨rfl, 0, rfl, anyRel_start s⟩
  case round =>
    obtain ⟨rfl, pos, rfl, ho⟩ := hrel
    have HO := Lib.hid ho
    clear ho
    by_cases hlt : pos < s.size
    · have hnx := fun ty => run_next_any (P := Try.prog) w s pos ty hlt
      have hw := Lib.width_pos s pos
      have hle := decode_le s pos
      cases hsp : spec (Utf8.decode s pos).1
      · have HN := Lib.hid (anyRel_no HO.out hlt hsp)
        clear HO
        generalize hdec : Utf8.decode s pos = q at *
        obtain ⟨q1, q2⟩ := q
        simp [spec] at hsp
        have e1 : ((q1 : Int) == 42) = false := by simp; omega
        have e2 : ((q1 : Int) == 63) = false := by simp; omega
        have e3 : ((q1 : Int) == 91) = false := by simp; omega
        have e4 : ((q1 : Int) == 92) = false := by simp; omega
        clear hdec hsp
        go_wp2
        go_roundw
        case rel => exact ⟨rfl, _, rfl, HN.out⟩
        case measure => simp at hw ⊢; omega
      · have HN := Lib.hid (anyRel_yes HO.out hlt hsp)
        clear HO
        have hb0 : Below w.heap.size w (w.iter s (pos + (Utf8.decode s pos).2)) := (Below.refl _ _).alloc (Nat.le_refl _) _
        generalize hdec : Utf8.decode s pos = q at *
        obtain ⟨q1, q2⟩ := q
        have hq : q1 = 42 ∨ q1 = 63 ∨ q1 = 91 ∨ q1 = 92 := by simp [spec] at hsp; omega
        clear hdec hsp
        generalize w.iter s (pos + q2) = wi at *
        have hsz0 := hb0.size
        rcases hq with rfl | rfl | rfl | rfl
        all_goals
          go_wp2
          go_loopw [10] (fun _ wr => ∃ (p fuel : Nat) (acc : List UInt8), Lib.IsBuilderF 32 5 wi.heap.size wi.heap.size (Lib.byteCells acc) wr ∧ wr.heap[wi.heap.size + 1]? = some (.stringIter s p) ∧ Below wi.heap.size wi wr ∧ acc ++ quoteFrom s fuel p = quoteFrom s s.size 0 ∧ s.size ≤ p + fuel ∧ acc.length ≤ 5 * p) (fun _ wr => s.size - wr.iterPos (wi.heap.size + 1))
          case atStart =>
            refine ⟨0, s.size, [], Lib.IsBuilderF.alloc (Lib.IsBuilderF.of (Lib.fresh_isBuilder 32 5 wi)) _, ?_, ((Below.refl _ wi).alloc (Nat.le_refl _) _).alloc (by simp) _, rfl, by omega, by simp⟩
            have := World.iter_heap (wi.alloc (.cells #[.pointer none, .slice none 0 0] 32)) s 0
            simpa using this
          case round =>
            obtain ⟨p, fuel, acc, hI, hit, hbw, hacc, hfu, hal⟩ := hrel
            have hsz : wi.heap.size + 1 < wr.heap.size := (Array.getElem?_eq_some_iff.1 hit).1
            by_cases hp : p < s.size
            · have hnx2 : ∀ ty, (Instr.next (.pointer (some ⟨wi.heap.size + 1, 0, none⟩)) true ty).run Try.prog wr = _ := fun ty => Lib.run_next_any_at wr (wi.heap.size + 1) s p ty hit hp
              have hwd := Lib.width_pos s p
              have hd1 := decode_le s p
              have hI2 := hI.iterAt hit (p + (Utf8.decode s p).2)
              have hit2 := Lib.iterAt_heap wr (wi.heap.size + 1) s p (p + (Utf8.decode s p).2) hit
              have hbw2 := Lib.below_iterAt hbw (k := wi.heap.size + 1) (by omega) s (p + (Utf8.decode s p).2)
              have hsz2 : wi.heap.size ≤ (wr.iterAt (wi.heap.size + 1) s (p + (Utf8.decode s p).2)).heap.size := by rw [Lib.iterAt_size]; omega
              obtain ⟨f, rfl⟩ : ∃ f, fuel = f + 1 := ⟨fuel - 1, by omega⟩
              have hl4 := Lib.runeCells_le ((Utf8.decode s p).1 : Int)
              have hl5 := Lib.runeCells_length ((Utf8.decode s p).1 : Int)
              cases hsp : spec (Utf8.decode s p).1
              · have hq2 : ¬ (Utf8.decode s p).1 = 42 ∧ ¬ (Utf8.decode s p).1 = 63 ∧ ¬ (Utf8.decode s p).1 = 91 ∧ ¬ (Utf8.decode s p).1 = 92 := by simp [spec] at hsp; omega
                have e1 : (((Utf8.decode s p).1 : Int) == 42) = false := by simp; omega
                have e2 : (((Utf8.decode s p).1 : Int) == 63) = false := by simp; omega
                have e3 : (((Utf8.decode s p).1 : Int) == 91) = false := by simp; omega
                have e4 : (((Utf8.decode s p).1 : Int) == 92) = false := by simp; omega
                go_wp2_with (go_at_call 10; refine (writeRune wi.heap.size wi.heap.size _ _ (by omega) (by omega) _ hI2 (by rw [Lib.byteCells_length]; omega) hsz2).mono ?_; rintro e W1 ⟨⟨u, rfl⟩, h1, b1, k1⟩)
                go_wp2
                go_roundw
                case rel =>
                  refine ⟨p + (Utf8.decode s p).2, f, acc ++ Lib.encodeRune (Utf8.decode s p).1, ?_, k1.iter hit2 (by omega), hbw2.trans b1, ?_, by omega, by simp; omega⟩
                  · rw [Lib.byteCells_append, Lib.byteCells_encodeRune]; exact .inr h1
                  · rw [← hacc]; simp [quoteFrom, hp, hsp]
                case measure =>
                  simp only [World.iterPos, k1.iter hit2 (by omega), hit]
                  omega
              · have hqf : quoteFrom s (f + 1) p = [92] ++ (Lib.encodeRune ((Utf8.decode s p).1 : Int) ++ quoteFrom s f (p + (Utf8.decode s p).2)) := by rw [quoteFrom, if_pos hp, if_pos hsp]
                rw [hqf] at hacc
                generalize hdec : Utf8.decode s p = q at *
                obtain ⟨q1, q3⟩ := q
                have hq2 : q1 = 42 ∨ q1 = 63 ∨ q1 = 91 ∨ q1 = 92 := by simp [spec] at hsp; omega
                clear hdec hsp hqf
                obtain ⟨r0, hr0⟩ : ∃ r0 : Int, r0 = (q1 : Int) := ⟨_, rfl⟩
                have hl6 : (Lib.encodeRune r0).length ≤ 4 := by rw [← Lib.runeCells_length]; exact (Lib.runeCells_le r0).2
                rcases hq2 with rfl | rfl | rfl | rfl
                all_goals
                  go_wp2_with (go_at_call 9; refine (writeByte wi.heap.size wi.heap.size _ _ _ hI2 (by rw [Lib.byteCells_length]; omega) hsz2).mono ?_; rintro e W1 ⟨rfl, h1, b1, k1⟩)
                  have hz1 := b1.size
                  go_wp2_with (go_at_call 10; refine (writeRune wi.heap.size wi.heap.size _ _ (by omega) (by omega) _ (.inr h1) (by rw [List.length_append, Lib.byteCells_length]; simp; omega) (by omega)).mono ?_; rintro e W2 ⟨⟨u, rfl⟩, h2, b2, k2⟩)
                  go_wp2
                  go_roundw
                  case rel =>
                    refine ⟨p + q3, f, acc ++ [92] ++ Lib.encodeRune r0, ?_, k2.iter (k1.iter hit2 (by omega)) (by omega), hbw2.trans (b1.trans b2), ?_, by omega, ?_⟩
                    · rw [hr0, Lib.byteCells_append, Lib.byteCells_append, Lib.byteCells_encodeRune]; exact .inr h2
                    · rw [hr0, ← hacc]; simp
                    · simp only [List.length_append, List.length_cons, List.length_nil]; omega
                  case measure =>
                    simp only [World.iterPos, k2.iter (k1.iter hit2 (by omega)) (by omega), hit]
                    omega
            · have hnx : ∀ ty, (Instr.next (.pointer (some ⟨wi.heap.size + 1, 0, none⟩)) true ty).run Try.prog wr = _ := fun ty => Lib.run_next_end_at wr (wi.heap.size + 1) s p ty hit hp
              go_wp2_with (go_at_call 11; refine (Try.Builder_String_any_f wi.heap.size wi.heap.size acc wr hI (by omega)).mono ?_; rintro e W1 ⟨rfl, hI2, hb2⟩)
              go_wp2
              try rw [Exit.noGoto_ret]
              go_ret
              rw [quoteFrom_end s fuel p hp, List.append_nil] at hacc
              subst hacc
              exact ⟨ret_string HN.out.symm, hb0.trans ((hbw.trans hb2).mono hsz0)⟩
    · have hnx := fun ty => run_next_end (P := Try.prog) w s pos ty hlt
      go_wp2
      try rw [Exit.noGoto_ret]
      go_ret
      exact ⟨ret_string (anyRel_end HO.out hlt).symm, (Below.refl _ _).alloc (Nat.le_refl _) _⟩
end Go.Proofs.Ytjldjndojmgabaa.quote
