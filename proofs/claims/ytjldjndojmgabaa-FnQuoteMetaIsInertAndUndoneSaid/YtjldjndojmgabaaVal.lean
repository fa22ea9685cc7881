/-
  What the law's zzValidUTF8 answers: true only for a text that is rebuilt by decoding and encoding rune by rune. Condition: a text of at most 2^40 bytes.
-/
import Derived.Test.YtjldjndojmgabaaOwn
import Derived.Test.YtjldjndojmgabaaChecked
import Derived.Test.YtjldjndojmgabaaPlain
import Derived.Laws.BitsLemmas
import Derived.LoopN
namespace Go.Proofs.Ytjldjndojmgabaa.vals
open Go.ChangeShapes Go.WideShapes Go.ChangeAt Go.RowKit Go.Proofs.Ytjldjndojmgabaa.plain Go.Proofs.Ytjldjndojmgabaa.own
set_option linter.unusedVariables false
theorem m224 : ∀ x : Fin 256, (bits .and .u8 ((x.val : Nat) : Int) 224 == 192) = decide (x.val / 32 = 6) := by decide +kernel
theorem m240 : ∀ x : Fin 256, (bits .and .u8 ((x.val : Nat) : Int) 240 == 224) = decide (x.val / 16 = 14) := by decide +kernel
theorem m248 : ∀ x : Fin 256, (bits .and .u8 ((x.val : Nat) : Int) 248 == 240) = decide (x.val / 8 = 30) := by decide +kernel
theorem m192 : ∀ x : Fin 256, (bits .and .u8 ((x.val : Nat) : Int) 192 == 128) = decide (x.val / 64 = 2) := by decide +kernel
theorem b224 (c : UInt8) : (bits .and .u8 (c.toNat : Int) 224 == 192) = decide (c.toNat / 32 = 6) := m224 ⟨c.toNat, c.toNat_lt⟩
theorem b240 (c : UInt8) : (bits .and .u8 (c.toNat : Int) 240 == 224) = decide (c.toNat / 16 = 14) := m240 ⟨c.toNat, c.toNat_lt⟩
theorem b248 (c : UInt8) : (bits .and .u8 (c.toNat : Int) 248 == 240) = decide (c.toNat / 8 = 30) := m248 ⟨c.toNat, c.toNat_lt⟩
theorem b192 (c : UInt8) : (bits .and .u8 (c.toNat : Int) 192 == 128) = decide (c.toNat / 64 = 2) := m192 ⟨c.toNat, c.toNat_lt⟩
theorem a31 (c : UInt8) : bits .and .u8 (c.toNat : Int) 31 = ((c.toNat % 32 : Nat) : Int) := by have := c.toNat_lt; rw [u8_and31 (x := (c.toNat : Int)) (by omega) (by omega)]; omega
theorem a15 (c : UInt8) : bits .and .u8 (c.toNat : Int) 15 = ((c.toNat % 16 : Nat) : Int) := by have := c.toNat_lt; rw [u8_and15 (x := (c.toNat : Int)) (by omega) (by omega)]; omega
theorem a7 (c : UInt8) : bits .and .u8 (c.toNat : Int) 7 = ((c.toNat % 8 : Nat) : Int) := by have := c.toNat_lt; rw [u8_and7 (x := (c.toNat : Int)) (by omega) (by omega)]; omega
theorem a63 (c : UInt8) : bits .and .u8 (c.toNat : Int) 63 = ((c.toNat % 64 : Nat) : Int) := by have := c.toNat_lt; rw [u8_and63 (x := (c.toNat : Int)) (by omega) (by omega)]; omega
def VRes (s : ByteArray) (e : Ending) : Prop := ∃ b, e = .returned (.bool b) ∧ (b = true → Lib.runesFrom s s.size 0 = s.data.toList)
theorem VRes.no (s : ByteArray) : VRes s (.returned (.bool false)) := ⟨false, rfl, by simp⟩
set_option maxHeartbeats 8000000 in
set_option maxRecDepth 100000 in
theorem valid_any (s : ByteArray) (hs : s.size ≤ 1099511627776) (w : World) :
    Calls Try.prog 7 #[.string s] w fun e w' => VRes s e ∧ w = w' := by
  go_enter Try.func7, Try.ntmps7
  go_wp2
  go_loop [3] (fun x => ∃ i : Nat, i ≤ s.size ∧ x = .int .i64 i ∧ okAt s i) (fun x => s.size - (intOf x).toNat)
  case atStart => exact ⟨0, by omega, rfl, okAt_start s⟩
  case round =>
    obtain ⟨i, hi, rfl, ho⟩ := hrel
    have HO := Lib.hid ho
    clear ho
    by_cases hlt : i < s.size
    · by_cases h8 : s[i].toNat < 128
      · have HN := Lib.hid (okAt_one s i hlt (by rw [get_eq s i hlt]; exact h8) HO.out)
        have e1 : decide ((s[i].toNat : Int) < 128) = true := by simp; omega
        go_wp2
        go_round
        case rel => exact ⟨i + 1, by omega, by go_num, HN.out⟩
        case measure => simp [intOf]; omega
      · have e1 : decide ((s[i].toNat : Int) < 128) = false := by simp; omega
        by_cases hcl : s[i].toNat / 32 = 6
        · have q2 : (bits .and .u8 (s[i].toNat : Int) 224 == 192) = true := by rw [b224]; simpa using hcl
          have f1 := a31 s[i]
          by_cases hn : i + 2 ≤ s.size
          · have h1 : i + 1 < s.size := by omega
            go_wp2
            refine wp_loop_rounds 2 ?_
            rw [rounds_succ]
            by_cases hc1 : s[i + 1].toNat / 64 = 2
            · have t1 : (bits .and .u8 (s[i + 1].toNat : Int) 192 == 128) = true := by rw [b192]; simpa using hc1
              have g1 := a63 s[i + 1]
              go_wp2
              rw [rounds_succ]
              obtain ⟨r, er⟩ : ∃ r : Int, r = (s[i].toNat : Int) % 32 * 64 + (s[i + 1].toNat : Int) % 64 := ⟨_, rfl⟩
              rw [← er]
              by_cases hr : 128 ≤ r
              · have HN := Lib.hid (okAt_two s i hn (by rw [get_eq s i hlt]; exact hcl) (by rw [get_eq s (i + 1) (by omega)]; exact hc1) (by rw [get_eq s i hlt, get_eq s (i + 1) (by omega)]; omega) HO.out)
                have hr2 : r < 2048 := by omega
                clear er
                go_wp2
                go_round
                case rel => exact ⟨i + 2, by omega, by go_num, HN.out⟩
                case measure => simp [intOf]; omega
              · clear er
                go_wp2
                go_ret
                exact ⟨VRes.no s, rfl⟩
            · have t1 : (bits .and .u8 (s[i + 1].toNat : Int) 192 == 128) = false := by rw [b192]; simpa using hc1
              go_wp2
              go_ret
              exact ⟨VRes.no s, rfl⟩
          · go_wp2
            go_ret
            exact ⟨VRes.no s, rfl⟩
        · have hx2 := hcl
          clear hcl
          have q2 : (bits .and .u8 (s[i].toNat : Int) 224 == 192) = false := by rw [b224]; simpa using hx2
          by_cases hcl : s[i].toNat / 16 = 14
          · have q3 : (bits .and .u8 (s[i].toNat : Int) 240 == 224) = true := by rw [b240]; simpa using hcl
            have f1 := a15 s[i]
            by_cases hn : i + 3 ≤ s.size
            · have h1 : i + 1 < s.size := by omega
              have hk2 : i + 2 < s.size := by omega
              go_wp2
              refine wp_loop_rounds 3 ?_
              rw [rounds_succ]
              by_cases hc1 : s[i + 1].toNat / 64 = 2
              · have t1 : (bits .and .u8 (s[i + 1].toNat : Int) 192 == 128) = true := by rw [b192]; simpa using hc1
                have g1 := a63 s[i + 1]
                go_wp2
                rw [rounds_succ]
                by_cases hc2 : s[i + 2].toNat / 64 = 2
                · have t2 : (bits .and .u8 (s[i + 2].toNat : Int) 192 == 128) = true := by rw [b192]; simpa using hc2
                  have g2 := a63 s[i + 2]
                  go_wp2
                  rw [rounds_succ]
                  obtain ⟨r, er⟩ : ∃ r : Int, r = ((s[i].toNat : Int) % 16 * 64 + (s[i + 1].toNat : Int) % 64) * 64 + (s[i + 2].toNat : Int) % 64 := ⟨_, rfl⟩
                  rw [← er]
                  by_cases hr : 2048 ≤ r
                  · have hr2 : r < 65536 := by omega
                    by_cases hs1 : r < 55296
                    · have HN := Lib.hid (okAt_three s i hn (by rw [get_eq s i hlt]; exact hcl) (by rw [get_eq s (i + 1) (by omega)]; exact hc1) (by rw [get_eq s (i + 2) (by omega)]; exact hc2) r.toNat (by rw [get_eq s i hlt, get_eq s (i + 1) (by omega), get_eq s (i + 2) (by omega)]; omega) (by omega) (by omega) HO.out)
                      clear er
                      go_wp2
                      go_round
                      case rel => exact ⟨i + 3, by omega, by go_num, HN.out⟩
                      case measure => simp [intOf]; omega
                    · by_cases hs2 : 57343 < r
                      · have HN := Lib.hid (okAt_three s i hn (by rw [get_eq s i hlt]; exact hcl) (by rw [get_eq s (i + 1) (by omega)]; exact hc1) (by rw [get_eq s (i + 2) (by omega)]; exact hc2) r.toNat (by rw [get_eq s i hlt, get_eq s (i + 1) (by omega), get_eq s (i + 2) (by omega)]; omega) (by omega) (by omega) HO.out)
                        clear er
                        go_wp2
                        go_round
                        case rel => exact ⟨i + 3, by omega, by go_num, HN.out⟩
                        case measure => simp [intOf]; omega
                      · clear er
                        go_wp2
                        go_ret
                        exact ⟨VRes.no s, rfl⟩
                  · clear er
                    go_wp2
                    go_ret
                    exact ⟨VRes.no s, rfl⟩
                · have t2 : (bits .and .u8 (s[i + 2].toNat : Int) 192 == 128) = false := by rw [b192]; simpa using hc2
                  go_wp2
                  go_ret
                  exact ⟨VRes.no s, rfl⟩
              · have t1 : (bits .and .u8 (s[i + 1].toNat : Int) 192 == 128) = false := by rw [b192]; simpa using hc1
                go_wp2
                go_ret
                exact ⟨VRes.no s, rfl⟩
            · go_wp2
              go_ret
              exact ⟨VRes.no s, rfl⟩
          · have hx3 := hcl
            clear hcl
            have q3 : (bits .and .u8 (s[i].toNat : Int) 240 == 224) = false := by rw [b240]; simpa using hx3
            by_cases hcl : s[i].toNat / 8 = 30
            · have q4 : (bits .and .u8 (s[i].toNat : Int) 248 == 240) = true := by rw [b248]; simpa using hcl
              have f1 := a7 s[i]
              by_cases hn : i + 4 ≤ s.size
              · have h1 : i + 1 < s.size := by omega
                have hk2 : i + 2 < s.size := by omega
                have hk3 : i + 3 < s.size := by omega
                go_wp2
                refine wp_loop_rounds 4 ?_
                rw [rounds_succ]
                by_cases hc1 : s[i + 1].toNat / 64 = 2
                · have t1 : (bits .and .u8 (s[i + 1].toNat : Int) 192 == 128) = true := by rw [b192]; simpa using hc1
                  have g1 := a63 s[i + 1]
                  go_wp2
                  rw [rounds_succ]
                  by_cases hc2 : s[i + 2].toNat / 64 = 2
                  · have t2 : (bits .and .u8 (s[i + 2].toNat : Int) 192 == 128) = true := by rw [b192]; simpa using hc2
                    have g2 := a63 s[i + 2]
                    go_wp2
                    rw [rounds_succ]
                    by_cases hc3 : s[i + 3].toNat / 64 = 2
                    · have t3 : (bits .and .u8 (s[i + 3].toNat : Int) 192 == 128) = true := by rw [b192]; simpa using hc3
                      have g3 := a63 s[i + 3]
                      go_wp2
                      rw [rounds_succ]
                      obtain ⟨r, er⟩ : ∃ r : Int, r = (((s[i].toNat : Int) % 8 * 64 + (s[i + 1].toNat : Int) % 64) * 64 + (s[i + 2].toNat : Int) % 64) * 64 + (s[i + 3].toNat : Int) % 64 := ⟨_, rfl⟩
                      rw [← er]
                      by_cases hr : 65536 ≤ r
                      · by_cases hs1 : r ≤ 1114111
                        · have HN := Lib.hid (okAt_four s i hn (by rw [get_eq s i hlt]; exact hcl) (by rw [get_eq s (i + 1) (by omega)]; exact hc1) (by rw [get_eq s (i + 2) (by omega)]; exact hc2) (by rw [get_eq s (i + 3) (by omega)]; exact hc3) r.toNat (by rw [get_eq s i hlt, get_eq s (i + 1) (by omega), get_eq s (i + 2) (by omega), get_eq s (i + 3) (by omega)]; omega) (by omega) (by omega) HO.out)
                          clear er
                          go_wp2
                          go_round
                          case rel => exact ⟨i + 4, by omega, by go_num, HN.out⟩
                          case measure => simp [intOf]; omega
                        · clear er
                          go_wp2
                          go_ret
                          exact ⟨VRes.no s, rfl⟩
                      · clear er
                        go_wp2
                        go_ret
                        exact ⟨VRes.no s, rfl⟩
                    · have t3 : (bits .and .u8 (s[i + 3].toNat : Int) 192 == 128) = false := by rw [b192]; simpa using hc3
                      go_wp2
                      go_ret
                      exact ⟨VRes.no s, rfl⟩
                  · have t2 : (bits .and .u8 (s[i + 2].toNat : Int) 192 == 128) = false := by rw [b192]; simpa using hc2
                    go_wp2
                    go_ret
                    exact ⟨VRes.no s, rfl⟩
                · have t1 : (bits .and .u8 (s[i + 1].toNat : Int) 192 == 128) = false := by rw [b192]; simpa using hc1
                  go_wp2
                  go_ret
                  exact ⟨VRes.no s, rfl⟩
              · go_wp2
                go_ret
                exact ⟨VRes.no s, rfl⟩
            · have hx4 := hcl
              clear hcl
              have q4 : (bits .and .u8 (s[i].toNat : Int) 248 == 240) = false := by rw [b248]; simpa using hx4
              go_wp2
              go_ret
              exact ⟨VRes.no s, rfl⟩
    · go_wp2
      go_ret
      exact ⟨⟨true, rfl, fun _ => okAt_end s i (by omega) HO.out⟩, rfl⟩
end Go.Proofs.Ytjldjndojmgabaa.vals
