/-
  What the law's zzUnquote and zzValidUTF8 answer. Conditions: a text of at most 2^40 bytes.
-/
import Derived.Test.YtjldjndojmgabaaOwn
import Derived.Test.YtjldjndojmgabaaChecked
import Derived.Test.YtjldjndojmgabaaPlain
import Derived.Test.YtjldjndojmgabaaMeta
import Derived.Laws.BitsLemmas
namespace Go.Proofs.Ytjldjndojmgabaa.unqs
open Go.ChangeShapes Go.WideShapes Go.ChangeAt Go.RowKit Go.Proofs.Ytjldjndojmgabaa.plain Go.Proofs.Ytjldjndojmgabaa.own
open Go.Proofs.Ytjldjndojmgabaa.metas (drop_cons drop_end byte_eq byte_ne)
set_option linter.unusedVariables false
theorem byte_info : (Try.prog.info? 5).map (fun i => (i.zero, i.size, i.bytes)) = some (some (.int .u8 0), 1, 1) := by kernel_rfl
def URel (q : ByteArray) (B : Nat) (w : World) (k : Nat) (v : Value) (wr : World) : Prop :=
  ∃ acc : List UInt8, wr.ownsRow B 5 1 v acc.length (bytesV acc) ∧ Below B w wr ∧ B ≤ wr.heap.size ∧ acc ++ unq (q.data.toList.drop k) = unq q.data.toList ∧ acc.length ≤ k
theorem URel_step {q : ByteArray} {B k k' : Nat} {w wr w1 : World} {acc : List UInt8} {c : UInt8} {v v1 : Value} {o : Obj} (hb : Below B w wr) (hsz : B ≤ wr.heap.size) (hacc : acc ++ unq (q.data.toList.drop k) = unq q.data.toList) (hlen : acc.length ≤ k) (hu : unq (q.data.toList.drop k) = c :: unq (q.data.toList.drop k')) (hk : k < k')
    (hrow : wr.ownsRow B 5 1 v acc.length (bytesV acc)) (hown : w1.ownsRow B 5 1 v1 (acc.length + 1) (bytesV acc ++ [.int .u8 (c.toNat : Int)])) (hg : (wr.alloc o).grownBy w1 v.ownBlock) : URel q B w k' v1 w1 := by
  refine ⟨acc ++ [c], ?_, (hb.alloc hsz _).grown hg (by simp; omega) (own_row_ge hrow), ?_, ?_, ?_⟩
  · rw [bytesV_append, bytesV_one, List.length_append]; exact hown
  · have := hg.size; simp at this; omega
  · rw [← hacc, hu]; simp
  · simp; omega
set_option maxHeartbeats 2000000 in
set_option maxRecDepth 100000 in
theorem unquote_any (q : ByteArray) (hs : q.size ≤ 1099511627776) (w : World) :
    Calls Try.prog 8 #[.string q] w fun e w' => e = .returned (.string ⟨(unq q.data.toList).toArray⟩) ∧ Below w.heap.size w w' := by
  obtain ⟨i0, hi, hz0, hz1, hz2⟩ := info_parts byte_info
  go_enter Try.func8, Try.ntmps8
  go_wp2_with (at_make; refine wpList_make_own _ rfl _ _ 30 rfl w.heap.size 5 i0 (.int .u8 0) 1 Try.underlying30 hi hz0 hz1 .i64 .i64 _ q.size rfl rfl ?c0 ?c1 ?c2 ?c3 ?_)
  case c0 => simp
  case c1 => rw [hz2]; omega
  case c2 => unfold maxLen; omega
  case c3 => exact Nat.le_refl _
  intro w1 hown hgrow
  have HR := Lib.hid (show URel q w.heap.size w 0 (.slice (some ⟨w.heap.size, 0, none⟩) 0 q.size) w1 from ⟨[], hown, (Below.refl _ _).grown hgrow (Nat.le_refl _) (fun k h => by cases h), hgrow.size, by simp, by simp⟩)
  clear hown hgrow
  go_wp2
  go_loopw [3, 4] (fun x y wr => ∃ (k : Nat) (v : Value), k ≤ q.size ∧ x = v ∧ y = .int .i64 k ∧ URel q w.heap.size w k v wr) (fun _ y _ => q.size - (intOf y).toNat)
  case atStart => exact ⟨0, _, by omega, rfl, rfl, HR.out⟩
  case round =>
    obtain ⟨k, v, hk, rfl, rfl, acc, hrow, hb, hsz, hacc, hlen⟩ := hrel
    clear HR
    by_cases hlt : k < q.size
    · by_cases c1 : q[k] = 92
      · have e1 : ((q[k].toNat : Int) == 92) = true := byte_eq (n := 92) (by omega) c1
        by_cases h2 : k + 1 < q.size
        · have hu : unq (q.data.toList.drop k) = q[k + 1] :: unq (q.data.toList.drop (k + 1 + 1)) := by rw [drop_cons q k hlt, drop_cons q (k + 1) h2, c1, unq_bs]
          clear c1
          go_wp2_with (at_builtin; refine wpList_append_own _ rfl _ _ 30 rfl w.heap.size 5 i0 (.int .u8 0) 1 1 Try.underlying30 hi hz0 hz1 hz2 rfl (by decide) _ _ _ rfl (hrow.alloc _) ⟨wr.heap.size, 0, none⟩ 1 1 [.int .u8 (q[k + 1].toNat : Int)] rfl rfl one_new ?c2 ?c3 ?c4 ?c5 ?_)
          case c2 => intro x hx; simp at hx; subst hx; rfl
          case c3 => unfold maxLen; omega
          case c4 => omega
          case c5 => simp; omega
          intro v1 w1 hown1 hgrow1 _
          have R := Lib.hid (URel_step hb hsz hacc hlen hu (by omega) hrow hown1 hgrow1)
          go_wp2
          go_roundw
          case rel => exact ⟨k + 1 + 1, _, by omega, rfl, by go_num, R.out⟩
          case measure => simp [intOf]; omega
        · have hu : unq (q.data.toList.drop k) = q[k] :: unq (q.data.toList.drop (k + 1)) := by rw [drop_cons q k hlt, drop_end q (k + 1) (by omega), unq_one]; rfl
          clear c1
          go_wp2_with (at_builtin; refine wpList_append_own _ rfl _ _ 30 rfl w.heap.size 5 i0 (.int .u8 0) 1 1 Try.underlying30 hi hz0 hz1 hz2 rfl (by decide) _ _ _ rfl (hrow.alloc _) ⟨wr.heap.size, 0, none⟩ 1 1 [.int .u8 (q[k].toNat : Int)] rfl rfl one_new ?c2 ?c3 ?c4 ?c5 ?_)
          case c2 => intro x hx; simp at hx; subst hx; rfl
          case c3 => unfold maxLen; omega
          case c4 => omega
          case c5 => simp; omega
          intro v1 w1 hown1 hgrow1 _
          have R := Lib.hid (URel_step hb hsz hacc hlen hu (by omega) hrow hown1 hgrow1)
          go_wp2
          go_roundw
          case rel => exact ⟨k + 1, _, by omega, rfl, by go_num, R.out⟩
          case measure => simp [intOf]; omega
      · have e1 : ((q[k].toNat : Int) == 92) = false := byte_ne (n := 92) (by omega) c1
        have hu : unq (q.data.toList.drop k) = q[k] :: unq (q.data.toList.drop (k + 1)) := by rw [drop_cons q k hlt, unq_other _ _ c1]
        clear c1
        go_wp2_with (at_builtin; refine wpList_append_own _ rfl _ _ 30 rfl w.heap.size 5 i0 (.int .u8 0) 1 1 Try.underlying30 hi hz0 hz1 hz2 rfl (by decide) _ _ _ rfl (hrow.alloc _) ⟨wr.heap.size, 0, none⟩ 1 1 [.int .u8 (q[k].toNat : Int)] rfl rfl one_new ?c2 ?c3 ?c4 ?c5 ?_)
        case c2 => intro x hx; simp at hx; subst hx; rfl
        case c3 => unfold maxLen; omega
        case c4 => omega
        case c5 => simp; omega
        intro v1 w1 hown1 hgrow1 _
        have R := Lib.hid (URel_step hb hsz hacc hlen hu (by omega) hrow hown1 hgrow1)
        go_wp2
        go_roundw
        case rel => exact ⟨k + 1, _, by omega, rfl, by go_num, R.out⟩
        case measure => simp [intOf]; omega
    · have hacc' : acc = unq q.data.toList := by rw [← hacc, drop_end q k (by omega)]; simp [unq]
      have hcv := conv_own (P := Try.prog) 30 9 Try.underlying30 Try.underlying5 Try.underlying9 hrow
      go_wp2
      go_ret
      exact ⟨rfl, hb⟩
end Go.Proofs.Ytjldjndojmgabaa.unqs
