/-
  What the two makers of a parser, zzStopWordOK and zzParserIs answer. Conditions: an accepted stop word.
-/
import Derived.Test.YtjhnnfbnfgaheaaStop
namespace Go.Proofs.Ytjhnnfbnfgaheaa.stops
open Go.ChangeShapes Go.WideShapes Go.ChangeAt Go.RowKit Go.Proofs.Ytjhnnfbnfgaheaa.runes Go.Proofs.Ytjhnnfbnfgaheaa.own
set_option linter.unusedVariables false
set_option maxHeartbeats 2000000 in
set_option maxRecDepth 1000000 in
theorem mk1 (s : ByteArray) (k : Bool) (m : Int) (h : Ok s) (w : World) :
    Calls Try.prog 8 #[.string s, .bool k, .int .i64 m] w fun e w' => ∃ p, e = .returned (.pointer (some ⟨p, 0, none⟩)) ∧ PAt p s k m w' ∧ Below w.heap.size w w' := by
  go_enter Try.func8, Try.ntmps8
  go_wp2_with (first | (go_at_call 15; refine (stopAt s h _).mono ?_; rintro e W1 ⟨rfl, hs1, hb1, hz1⟩) | (go_at_call 16; refine (keepC _ _).mono ?_; rintro e w' ⟨rfl, rfl⟩) | (go_at_call 17; refine (recov _ _).mono ?_; rintro e w' ⟨rfl, rfl⟩))
  refine (np1 s k m _ w.heap.size W1.heap.size (W1.heap.size + 1) _ ?_ ?_ ?_ (ck _ (ck _ (ck _ hs1))) ?_ ?_).mono ?_
  · simp [go_sem, clo]
  · simp [go_sem, clo]
  · simp [go_sem, clo]
  · simp [go_sem]
  · simp [go_sem]
  · rintro e W2 ⟨rfl, hp, hb2⟩
    have hb3 : Below w.heap.size w W2 := (((hb1.alloc (by omega) _).alloc (by simp; omega) _).alloc (by simp; omega) _).trans (hb2.mono (by simp; omega))
    clear hb1 hb2
    go_wp2
    go_ret
    exact ⟨_, rfl, by simpa using hp, hb3⟩
set_option maxHeartbeats 2000000 in
set_option maxRecDepth 1000000 in
theorem mk2 (s : ByteArray) (k : Bool) (m : Int) (h : Ok s) (w : World) :
    Calls Try.prog 9 #[.string s, .bool k, .int .i64 m] w fun e w' => ∃ p, e = .returned (.pointer (some ⟨p, 0, none⟩)) ∧ PAt p s k m w' ∧ Below w.heap.size w w' := by
  go_enter Try.func9, Try.ntmps9
  go_wp2_with (first | (go_at_call 15; refine (stopAt s h _).mono ?_; rintro e W1 ⟨rfl, hs1, hb1, hz1⟩) | (go_at_call 16; refine (keepC _ _).mono ?_; rintro e w' ⟨rfl, rfl⟩) | (go_at_call 17; refine (recov _ _).mono ?_; rintro e w' ⟨rfl, rfl⟩))
  generalize hW0 : World.alloc (World.alloc w _) _ = W0 at hs1 hb1 hz1
  have k0 : W0.cell? ⟨w.heap.size, 0, none⟩ = some (.int .i64 m) := by rw [← hW0]; simp [go_sem]
  have k1 : W0.cell? ⟨w.heap.size + 1, 0, none⟩ = some (.bool k) := by rw [← hW0]; simp [go_sem]
  have k2 : W0.heap.size = w.heap.size + 1 + 1 := by rw [← hW0]; simp
  have k3 : Below w.heap.size w W0 := by rw [← hW0]; exact ((Below.refl _ _).alloc (Nat.le_refl _) _).alloc (by simp) _
  have j0 := (hb1.cell (p := ⟨w.heap.size, 0, none⟩) (by simp; omega)).trans k0
  have j1 := (hb1.cell (p := ⟨w.heap.size + 1, 0, none⟩) (by simp; omega)).trans k1
  rw [k2] at hs1 hz1
  have j4 : Below w.heap.size w W1 := k3.trans (hb1.mono (by omega))
  clear hb1 k0 k1 k3 hW0
  refine (np2 s k m _ (w.heap.size + 1 + 1) (w.heap.size + 1) w.heap.size _ ?_ ?_ ?_ (ck _ hs1) (ck _ j1) (ck _ j0)).mono ?_
  · simp [go_sem, clo]
  · simp [go_sem, clo]
  · simp [go_sem, clo]
  · rintro e W2 ⟨rfl, hp, hb2⟩
    have hb3 : Below w.heap.size w W2 := (j4.alloc (by omega) _).trans (hb2.mono (by simp; omega))
    clear hb2 j0 j1 j4
    go_wp2
    go_ret
    exact ⟨_, rfl, by simpa using hp, hb3⟩
theorem byte_eq {c : UInt8} {n : Nat} (hn : n < 256) (h : c = UInt8.ofNat n) : ((c.toNat : Int) == (n : Int)) = true := by
  subst h; simp; omega
theorem byte_ne {c : UInt8} {n : Nat} (_hn : n < 256) (h : c ≠ UInt8.ofNat n) : ((c.toNat : Int) == (n : Int)) = false := by
  have : c.toNat ≠ n := fun e => h (by rw [← e]; simp)
  simp; omega
/-- none of the first k bytes is white space -/
def Clean (s : ByteArray) (k : Nat) : Prop := ∀ (j : Nat) (h : j < s.size), j < k → s[j] ∉ ([32, 9, 10, 13] : List UInt8)
theorem Clean.ok {s : ByteArray} {k : Nat} (h : Clean s k) (hk : s.size ≤ k) (hs : s.size ≤ 4) : Ok s := by
  refine ⟨hs, fun b hb => ?_⟩
  obtain ⟨j, hj, rfl⟩ := List.getElem_of_mem hb
  have hj' : j < s.size := by simpa using hj
  exact h j hj' (by omega)
theorem Clean.step {s : ByteArray} {k : Nat} (h : Clean s k) (hk : k < s.size) (h1 : s[k] ≠ 32) (h2 : s[k] ≠ 9) (h3 : s[k] ≠ 10) (h4 : s[k] ≠ 13) : Clean s (k + 1) := by
  intro j hj hjk
  by_cases e : j = k
  · subst e; simp [h1, h2, h3, h4]
  · exact h j hj (by omega)
def WRes (s : ByteArray) (e : Ending) : Prop := ∃ b, e = .returned (.bool b) ∧ (b = true → Ok s)
theorem WRes.no (s : ByteArray) : WRes s (.returned (.bool false)) := ⟨false, rfl, by simp⟩
set_option maxHeartbeats 2000000 in
theorem wordOK (s : ByteArray) (hs : s.size ≤ 4) (w : World) :
    Calls Try.prog 7 #[.string s] w fun e w' => WRes s e ∧ w = w' := by
  go_enter Try.func7, Try.ntmps7
  go_wp2
  go_loop [3] (fun x => ∃ k : Nat, k ≤ s.size ∧ x = .int .i64 k ∧ Clean s k) (fun x => s.size - (intOf x).toNat)
  case atStart => exact ⟨0, by omega, rfl, fun _ _ h => by omega⟩
  case round =>
    obtain ⟨k, hk, rfl, hc⟩ := hrel
    have HC := Lib.hid hc
    clear hc
    by_cases hlt : k < s.size
    · by_cases c1 : s[k] = 32
      · have e1 : ((s[k].toNat : Int) == 32) = true := byte_eq (n := 32) (by omega) c1
        clear c1
        go_wp2
        go_ret
        exact ⟨WRes.no s, rfl⟩
      · have e1 : ((s[k].toNat : Int) == 32) = false := byte_ne (n := 32) (by omega) c1
        by_cases c2 : s[k] = 9
        · have e2 : ((s[k].toNat : Int) == 9) = true := byte_eq (n := 9) (by omega) c2
          clear c1 c2
          go_wp2
          go_ret
          exact ⟨WRes.no s, rfl⟩
        · have e2 : ((s[k].toNat : Int) == 9) = false := byte_ne (n := 9) (by omega) c2
          by_cases c3 : s[k] = 10
          · have e3 : ((s[k].toNat : Int) == 10) = true := byte_eq (n := 10) (by omega) c3
            clear c1 c2 c3
            go_wp2
            go_ret
            exact ⟨WRes.no s, rfl⟩
          · have e3 : ((s[k].toNat : Int) == 10) = false := byte_ne (n := 10) (by omega) c3
            by_cases c4 : s[k] = 13
            · have e4 : ((s[k].toNat : Int) == 13) = true := byte_eq (n := 13) (by omega) c4
              clear c1 c2 c3 c4
              go_wp2
              go_ret
              exact ⟨WRes.no s, rfl⟩
            · have e4 : ((s[k].toNat : Int) == 13) = false := byte_ne (n := 13) (by omega) c4
              have HN := Lib.hid (HC.out.step hlt c1 c2 c3 c4)
              clear c1 c2 c3 c4
              go_wp2
              go_round
              case rel => exact ⟨k + 1, by omega, by go_num, HN.out⟩
              case measure => simp [intOf]; omega
    · go_wp2
      go_ret
      exact ⟨⟨true, rfl, fun _ => HC.out.ok (by omega) hs⟩, rfl⟩
set_option maxHeartbeats 2000000 in
theorem parserIs (s : ByteArray) (k : Bool) (m : Int) (p : Nat) (w : World) (h : PAt p s k m w) (hs : s.size ≤ 4) :
    Calls Try.prog 10 #[.pointer (some ⟨p, 0, none⟩), .string s, .bool k, .int .i64 m] w fun e w' => e = .returned (.bool true) ∧ Below w.heap.size w w' := by
  obtain ⟨g, cap, h19, h20, h21, h23, hb, hp, hg⟩ := h
  have HB := Lib.hid hb
  clear hb
  go_enter Try.func10, Try.ntmps10
  go_wp2
  go_loopw [10] (fun x wr => ∃ j n : Nat, j ≤ s.size ∧ x = .int .i64 j ∧ wr = w.drewN n) (fun x _ => s.size - (intOf x).toNat)
  case atStart => exact ⟨0, 0, by omega, rfl, rfl⟩
  case round =>
    obtain ⟨j, n, hj, rfl, rfl⟩ := hrel
    by_cases hlt : j < s.size
    · have hc : w.cell? ⟨g, j, none⟩ = some (.int .u8 (s[j].toNat : Int)) := HB.out j hlt
      go_wp2
      go_quiet (fail)
      go_wp2
      go_roundw
      case rel => exact ⟨j + 1, _, by omega, by go_num, rfl⟩
      case measure => simp [intOf]; omega
    · go_wp2
      go_ret
      exact ⟨rfl, below_drewN (Below.refl _ _) _⟩
theorem PAt.below {p : Nat} {s : ByteArray} {k : Bool} {m : Int} {w w' : World} (h : PAt p s k m w) (hb : Below w.heap.size w w') : PAt p s k m w' := by
  obtain ⟨g, cap, h19, h20, h21, h23, hc, hp, hg⟩ := h
  have hz := hb.size
  exact ⟨g, cap, (hb.cell (by exact hp)).trans h19, (hb.cell (by exact hp)).trans h20, (hb.cell (by exact hp)).trans h21, (hb.cell (by exact hp)).trans h23, fun j h => (hb.cell (by exact hg)).trans (hc j h), by omega, by omega⟩
end Go.Proofs.Ytjhnnfbnfgaheaa.stops
