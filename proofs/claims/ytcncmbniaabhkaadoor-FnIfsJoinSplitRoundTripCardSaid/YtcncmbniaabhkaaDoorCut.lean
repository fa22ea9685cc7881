/-
  What zzHas and zzSplit answer. Conditions: texts of at most 2^40 bytes; for zzSplit the text is a list joined by a separator whose first byte does not occur again in it and which lies in no string of the list.
-/
import Derived.Test.YtcncmbniaabhkaaDoorVars
import Derived.Test.YtcncmbniaabhkaaDoorPlain
import Derived.Laws.Strings3
import Derived.Laws.DeepStrings4
namespace Go.Proofs.YtcncmbniaabhkaaDoor.cut
open Go.ChangeShapes Go.WideShapes Go.ChangeAt Go.RowKit
open Go.Proofs.YtcncmbniaabhkaaDoor.own Go.Proofs.YtcncmbniaabhkaaDoor.vars Go.Proofs.YtcncmbniaabhkaaDoor.plain
set_option linter.unusedVariables false
theorem infix_at {sub l : List UInt8} (h : sub <:+: l) : ∃ j, j + sub.length ≤ l.length ∧ sub <+: l.drop j := by
  obtain ⟨a, b, rfl⟩ := h
  refine ⟨a.length, by simp, ?_⟩
  rw [List.append_assoc, List.drop_left]
  exact List.prefix_append _ _
def HRes (s sub : ByteArray) (e : Ending) : Prop := ∃ b : Bool, e = .returned (.bool b) ∧ (b = false → ¬ sub.data.toList <:+: s.data.toList)
theorem HRes.yes (s sub : ByteArray) : HRes s sub (.returned (.bool true)) := ⟨true, rfl, fun h => by cases h⟩
theorem HRes.none {s sub : ByteArray} {k : Nat} (hk : ¬ k + sub.size ≤ s.size) (h : ∀ j, j < k → eqAt s j sub = false) : HRes s sub (.returned (.bool false)) := by
  refine ⟨false, rfl, fun _ hin => ?_⟩
  obtain ⟨j, hj, hp⟩ := infix_at hin
  rw [← Lib.size_eq, ← Lib.size_eq] at hj
  have h1 := h j (by omega)
  rw [(eqAt_iff s j sub).2 hp] at h1
  cases h1
set_option maxHeartbeats 1000000 in
theorem has_any (s sub : ByteArray) (hs : s.size ≤ 1099511627776) (hb : sub.size ≤ 1099511627776) (w : World) :
    Calls Tryd.prog 9 #[.string s, .string sub] w fun e w' => HRes s sub e ∧ w = w' := by
  go_enter Tryd.func9, Tryd.ntmps9
  go_wp2
  go_loop [5] (fun x => ∃ k : Nat, x = .int .i64 k ∧ k ≤ s.size + 1 ∧ Hid (∀ j, j < k → eqAt s j sub = false)) (fun x => s.size + 1 - (intOf x).toNat)
  case atStart => exact ⟨0, rfl, by omega, Lib.hid (fun j h => by omega)⟩
  case round =>
    obtain ⟨k, rfl, hk, HR⟩ := hrel
    by_cases hlt : k + sub.size ≤ s.size
    · cases he : eqAt s k sub
      · have HN := Lib.hid (show ∀ j, j < k + 1 → eqAt s j sub = false by
          intro j hj
          by_cases e : j = k
          · rw [e]; exact he
          · exact HR.out j (by omega))
        have e1 : ((s.extract k (k + sub.size)).toList == sub.toList) = false := he
        clear he HR
        go_wp2
        go_round
        case rel => exact ⟨k + 1, by go_num, by omega, HN⟩
        case measure => simp [intOf]; omega
      · have e1 : ((s.extract k (k + sub.size)).toList == sub.toList) = true := he
        clear he HR
        go_wp2
        go_ret
        exact ⟨HRes.yes s sub, rfl⟩
    · go_wp2
      go_ret
      exact ⟨HRes.none hlt HR.out, rfl⟩
theorem info9 : (Tryd.prog.info? 9).map (fun i => (i.zero, i.size, i.bytes)) = some (some (.string ⟨#[]⟩), 1, 16) := by kernel_rfl
theorem pieces_step (F : Nat → ByteArray) (k : Nat) : strsV F k ++ [.string (F k)] = strsV F (k + 1) := by
  simp [strsV, List.range_succ]
/-- the list's bytes -/
def LL (F : Nat → ByteArray) (n : Nat) : List (List UInt8) := (List.range n).map fun i => (F i).data.toList
theorem LL_length (F : Nat → ByteArray) (n : Nat) : (LL F n).length = n := by simp [LL]
theorem LL_get (F : Nat → ByteArray) (n k : Nat) (h : k < n) : (LL F n).getD k [] = (F k).data.toList := by
  simp [LL, List.getD_eq_getElem?_getD, h]
theorem LL_mem (F : Nat → ByteArray) (n : Nat) (sub : List UInt8) (hx : ∀ i, i < n → ¬ sub <:+: (F i).data.toList) : ∀ x ∈ LL F n, ¬ sub <:+: x := by
  intro x hm
  obtain ⟨i, hi, rfl⟩ := List.mem_map.1 hm
  exact hx i (List.mem_range.1 hi)
theorem ba_ext {a b : ByteArray} (h : a.data.toList = b.data.toList) : a = b := by
  cases a; cases b; simpa using h
def SInv (J sep : ByteArray) (F : Nat → ByteArray) (n B : Nat) (w : World) (k start m : Nat) (v : Value) (wr : World) : Prop :=
  wr.ownsRow B 9 1 v k (strsV F k) ∧ Below B w wr ∧ B ≤ wr.heap.size ∧ Rel J sep (LL F n) k start m
theorem SInv.put {J sep : ByteArray} {F : Nat → ByteArray} {n B k start m start' : Nat} {w wr w1 : World} {v v1 : Value} {o : Obj} (h : SInv J sep F n B w k start m v wr)
    (hr : Rel J sep (LL F n) (k + 1) start' 0) (hown : w1.ownsRow B 9 1 v1 (k + 1) (strsV F k ++ [.string (F k)])) (hg : (wr.alloc o).grownBy w1 v.ownBlock) : SInv J sep F n B w (k + 1) start' 0 v1 w1 := by
  obtain ⟨h1, h2, h3, h4⟩ := h
  rw [pieces_step] at hown
  exact ⟨hown, (h2.alloc h3 o).grown hg (by simp; omega) (own_row_ge h1), by have := hg.size; simp at this; omega, hr⟩
def SpRes (n : Nat) (F : Nat → ByteArray) (w : World) (e : Ending) (w' : World) : Prop := ∃ g cap, e = .returned (.slice (some ⟨g, 0, none⟩) n cap) ∧ w'.ownsRow w.heap.size 9 1 (.slice (some ⟨g, 0, none⟩) n cap) n (strsV F n) ∧ Below w.heap.size w w'
set_option maxHeartbeats 4000000 in
set_option maxRecDepth 100000 in
theorem split_any (J sep : ByteArray) (F : Nat → ByteArray) (n : Nat) (hn0 : 0 < n) (hn : n ≤ 1048576) (hJ : J.size ≤ 1099511627776) (hb : sep.size ≤ 1099511627776)
    (hf : HF sep.data.toList) (hx : ∀ i, i < n → ¬ sep.data.toList <:+: (F i).data.toList) (hj : J.data.toList = Lib.join (LL F n) sep.data.toList) (w : World) :
    Calls Tryd.prog 10 #[.string J, .string sep] w (SpRes n F w) := by
  have HS := Lib.hid (fun k start m (h : Rel J sep (LL F n) k start m) => h.step hf (LL_mem F n _ hx))
  have HD := Lib.hid (fun k start m (h : Rel J sep (LL F n) k start m) => h.done)
  have H0 := Lib.hid (Rel.start J sep (LL F n) (by rw [LL_length]; exact hn0) hj)
  have hsz : 0 < sep.size := by
    obtain ⟨c, r, hs, _⟩ := hf
    rw [Lib.size_eq, hs]; simp
  clear hx hj hf
  obtain ⟨i0, hi, hz0, hz1, hz2⟩ := info_parts info9
  go_enter Tryd.func10, Tryd.ntmps10
  go_wp2
  go_loopw [5, 6, 7] (fun x y z wr => ∃ (k start m : Nat) (v : Value), v = x ∧ y = .int .i64 start ∧ z = .int .i64 ((start : Int) + m) ∧ SInv J sep F n w.heap.size w k start m v wr) (fun _ _ z _ => J.size + 1 - (intOf z).toNat)
  case atStart => exact ⟨0, 0, 0, _, rfl, rfl, by simp, ⟨rfl, .inl ⟨rfl, rfl⟩⟩, Below.refl _ _, Nat.le_refl _, H0.out⟩
  case round =>
    obtain ⟨k, start, m, v, rfl, rfl, rfl, hr⟩ := hrel
    have H := Lib.hid hr
    have hkn : k < n := by have := hr.2.2.2.1; rw [LL_length] at this; exact this
    have hst : start ≤ J.size := hr.2.2.2.2.2.1
    have hsm : start + m ≤ J.size := hr.2.2.2.le
    clear hr H0
    by_cases hle : start + m + sep.size ≤ J.size
    · rcases HS.out k start m H.out.2.2.2 hle with ⟨he, hn1⟩ | ⟨he, hn1, hp⟩
      · have HN := Lib.hid (show SInv J sep F n w.heap.size w k start (m + 1) v wr from ⟨H.out.1, H.out.2.1, H.out.2.2.1, hn1⟩)
        have e1 : ((J.extract (start + m) (start + m + sep.size)).toList == sep.toList) = false := he
        clear he hn1 HS HD H
        go_wp2
        go_roundw
        case rel => exact ⟨k, start, m + 1, v, rfl, rfl, by go_num, HN.out⟩
        case measure => simp [intOf]; omega
      · have e1 : ((J.extract (start + m) (start + m + sep.size)).toList == sep.toList) = true := he
        have hp2 : J.extract start (start + m) = F k := ba_ext (by rw [hp, LL_get F n k hkn])
        have HN := Lib.hid hn1
        clear he hn1 HS HD hp
        have hrow := H.out.1
        go_wp2_with (at_builtin; refine wpList_append_own _ rfl _ _ 22 rfl w.heap.size 9 i0 (.string ⟨#[]⟩) 1 16 Tryd.underlying22 hi hz0 hz1 hz2 rfl (by decide) _ _ _ rfl (hrow.alloc _) ⟨wr.heap.size, 0, none⟩ 1 1 [.string (F k)] rfl rfl ?c1 ?c2 ?c3 ?c4 ?c5 ?_)
        case c1 => exact one_new
        case c2 => intro u hu; simp at hu; subst hu; rfl
        case c3 => unfold maxLen; omega
        case c4 => omega
        case c5 => simp; have := H.out.2.2.1; omega
        intro v1 w1 hown1 hgrow1 _
        have R := Lib.hid (SInv.put H.out HN.out hown1 hgrow1)
        go_wp2
        go_roundw
        case rel => exact ⟨k + 1, start + m + sep.size, 0, v1, rfl, by go_num, by go_num, R.out⟩
        case measure => simp [intOf]; omega
    · obtain ⟨hk, hp⟩ := HD.out k start m H.out.2.2.2 hle
      rw [LL_length] at hk
      have HK := Lib.hid hk
      have hle' : ¬ ((start : Int) + (m : Int) + (sep.size : Int) ≤ (J.size : Int)) := by omega
      clear hk
      have hp2 : J.extract start J.size = F k := ba_ext (by rw [hp, LL_get F n k hkn])
      clear HS HD hp
      have hrow := H.out.1
      go_wp2_with (at_builtin; refine wpList_append_own _ rfl _ _ 22 rfl w.heap.size 9 i0 (.string ⟨#[]⟩) 1 16 Tryd.underlying22 hi hz0 hz1 hz2 rfl (by decide) _ _ _ rfl (hrow.alloc _) ⟨wr.heap.size, 0, none⟩ 1 1 [.string (F k)] rfl rfl ?c1 ?c2 ?c3 ?c4 ?c5 ?_)
      case c2 => rfl
      case c3 => unfold maxLen; omega
      case c4 => omega
      case c5 => have := H.out.2.2.1; first | omega | (simp; omega)
      intro v1 w1 hown1 hgrow1 _
      have R : w1.ownsRow w.heap.size 9 1 v1 (k + 1) (strsV F k ++ [.string (F k)]) ∧ Below w.heap.size w w1 := ⟨hown1, (H.out.2.1.alloc H.out.2.2.1 _).grown hgrow1 (by have := H.out.2.2.1; simp; omega) (own_row_ge H.out.1)⟩
      rw [pieces_step, HK.out] at R
      obtain ⟨g, cap, hv, _⟩ := own_form R.1 hn0
      rw [hv] at R
      have RR := Lib.hid R
      have hret := Lib.hid (show Ending.returned v1 = .returned (.slice (some ⟨g, 0, none⟩) n cap) by rw [hv])
      clear hv
      go_wp2
      go_ret
      exact ⟨g, cap, hret.out, RR.out.1, RR.out.2⟩
end Go.Proofs.YtcncmbniaabhkaaDoor.cut
