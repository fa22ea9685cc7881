/-
  What pattern.HasMeta answers, for every text of at most 2^40 bytes and every mode: the scan runGo of the text's bytes; nothing in memory changes.
-/
import Derived.Test.YtjldjndojmgabaaRows
import Derived.Test.YtjldjndojmgabaaPlain
import Derived.WalkKit
import Derived.ProofKit
import Derived.OpenShut
import Derived.Handy
import Derived.Lib.Hide
namespace Go.Proofs.Ytjldjndojmgabaa.metas
open Go.ChangeShapes Go.WideShapes Go.ChangeAt Go.RowKit Go.Proofs.Ytjldjndojmgabaa.plain
theorem ret_bool {a b : Bool} (h : a = b) : Ending.returned (.bool a) = .returned (.bool b) := by rw [h]
theorem drop_cons (s : ByteArray) (k : Nat) (h : k < s.size) : s.data.toList.drop k = s[k] :: s.data.toList.drop (k + 1) := by
  rw [List.drop_eq_getElem_cons (by simpa using h)]; rfl
theorem drop_end (s : ByteArray) (k : Nat) (h : s.size ≤ k) : s.data.toList.drop k = [] := List.drop_eq_nil_of_le (by simpa using h)
theorem byte_eq {c : UInt8} {n : Nat} (hn : n < 256) (h : c = UInt8.ofNat n) : ((c.toNat : Int) == (n : Int)) = true := by
  subst h; simp; omega
theorem byte_ne {c : UInt8} {n : Nat} (_hn : n < 256) (h : c ≠ UInt8.ofNat n) : ((c.toNat : Int) == (n : Int)) = false := by
  have : c.toNat ≠ n := fun e => h (by rw [← e]; simp)
  simp; omega
def metaRel (s : ByteArray) (k : Nat) (o : Bool) : Prop := runGo (s.data.toList.drop k) false o = runGo s.data.toList false false
set_option maxHeartbeats 1000000 in
theorem hasMeta_any (s : ByteArray) (m : Int) (w : World) (hs : s.size ≤ 1099511627776) :
    Calls Try.prog 6 #[.string s, .int .u64 m] w fun e w' => e = .returned (.bool (runGo s.data.toList false false)) ∧ w = w' := by
  go_enter Try.func6, Try.ntmps6
  go_wp2
  go_loop [5, 6] (fun x y => ∃ (k : Nat) (o : Bool), k ≤ s.size + 1 ∧ x = .bool o ∧ y = .int .i64 k ∧ metaRel s k o) (fun _ y => s.size + 1 - (intOf y).toNat)
  case atStart => exact ⟨0, false, by omega, rfl, rfl, rfl⟩
  case round =>
    obtain ⟨k, o, hk, rfl, rfl, hr⟩ := hrel
    have HR := Lib.hid hr
    clear hr
    by_cases hlt : k < s.size
    · have HD := Lib.hid (drop_cons s k hlt)
      by_cases c1 : s[k] = 92
      · have e1 : ((s[k].toNat : Int) == 92) = true := byte_eq (n := 92) (by omega) c1
        have HN := Lib.hid (show metaRel s (k + 1 + 1) o by have h := HR.out; unfold metaRel at h ⊢; rw [HD.out, c1, run_bs, List.drop_drop] at h; exact h)
        clear c1
        go_wp2
        go_round
        case rel => exact ⟨k + 1 + 1, o, by omega, rfl, by go_num, HN.out⟩
        case measure => simp [intOf]; omega
      · have e1 : ((s[k].toNat : Int) == 92) = false := byte_ne (n := 92) (by omega) c1
        by_cases c2 : s[k] = 42
        · have e2 : ((s[k].toNat : Int) == 42) = true := byte_eq (n := 42) (by omega) c2
          have HN := Lib.hid (show true = runGo s.data.toList false false by have h := HR.out; unfold metaRel at h; rw [HD.out, run_star _ _ _ (.inl c2)] at h; exact h)
          clear c1 c2
          go_wp2
          go_ret
          exact ⟨ret_bool HN.out, rfl⟩
        · have e2 : ((s[k].toNat : Int) == 42) = false := byte_ne (n := 42) (by omega) c2
          by_cases c3 : s[k] = 63
          · have e3 : ((s[k].toNat : Int) == 63) = true := byte_eq (n := 63) (by omega) c3
            have HN := Lib.hid (show true = runGo s.data.toList false false by have h := HR.out; unfold metaRel at h; rw [HD.out, run_star _ _ _ (.inr c3)] at h; exact h)
            clear c1 c2 c3
            go_wp2
            go_ret
            exact ⟨ret_bool HN.out, rfl⟩
          · have e3 : ((s[k].toNat : Int) == 63) = false := byte_ne (n := 63) (by omega) c3
            by_cases c4 : s[k] = 91
            · have e4 : ((s[k].toNat : Int) == 91) = true := byte_eq (n := 91) (by omega) c4
              have HN := Lib.hid (show metaRel s (k + 1) true by have h := HR.out; unfold metaRel at h ⊢; rw [HD.out, c4, run_open] at h; exact h)
              clear c1 c2 c3 c4
              go_wp2
              go_round
              case rel => exact ⟨k + 1, true, by omega, rfl, by go_num, HN.out⟩
              case measure => simp [intOf]; omega
            · have e4 : ((s[k].toNat : Int) == 91) = false := byte_ne (n := 91) (by omega) c4
              by_cases c5 : s[k] = 93
              · have e5 : ((s[k].toNat : Int) == 93) = true := byte_eq (n := 93) (by omega) c5
                cases o
                · have HN := Lib.hid (show metaRel s (k + 1) false by have h := HR.out; unfold metaRel at h ⊢; rw [HD.out, c5, run_shut'] at h; exact h)
                  clear c1 c2 c3 c4 c5
                  go_wp2
                  go_round
                  case rel => exact ⟨k + 1, false, by omega, rfl, by go_num, HN.out⟩
                  case measure => simp [intOf]; omega
                · have HN := Lib.hid (show true = runGo s.data.toList false false by have h := HR.out; unfold metaRel at h; rw [HD.out, c5, run_shut] at h; exact h)
                  clear c1 c2 c3 c4 c5
                  go_wp2
                  go_ret
                  exact ⟨ret_bool HN.out, rfl⟩
              · have e5 : ((s[k].toNat : Int) == 93) = false := byte_ne (n := 93) (by omega) c5
                have HN := Lib.hid (show metaRel s (k + 1) o by have h := HR.out; unfold metaRel at h ⊢; rw [HD.out, run_other _ _ _ c1 c2 c3 c4 c5] at h; exact h)
                clear c1 c2 c3 c4 c5
                go_wp2
                go_round
                case rel => exact ⟨k + 1, o, by omega, rfl, by go_num, HN.out⟩
                case measure => simp [intOf]; omega
    · have HN := Lib.hid (show false = runGo s.data.toList false false by have h := HR.out; unfold metaRel at h; rw [drop_end s k (by omega), run_nil] at h; exact h)
      go_wp2
      go_ret
      exact ⟨ret_bool HN.out, rfl⟩
end Go.Proofs.Ytjldjndojmgabaa.metas
