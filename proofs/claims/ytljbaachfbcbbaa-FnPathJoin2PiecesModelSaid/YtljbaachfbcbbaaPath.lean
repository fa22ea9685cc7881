/-
  Contracts of the law's own b13SplitTwo (at one separator) and b13Join. Conditions: strings of at most 2^21 bytes in all.
-/
import Derived.Test.YtljbaachfbcbbaaPathPlain
import Derived.Test.YtljbaachfbcbbaaVars
import Derived.Lib.AppendStr
namespace Go.Proofs.Ytljbaachfbcbbaa.path
open Go.ChangeShapes Go.WideShapes Go.ChangeAt Go.RowKit
open Go.Proofs.Ytljbaachfbcbbaa.own
open Go.Proofs.Ytljbaachfbcbbaa.vars (cloneS_info)
set_option linter.unusedVariables false

def strV (l : List ByteArray) : List Value := l.map .string
theorem strV_length (l : List ByteArray) : (strV l).length = l.length := by simp [strV]
theorem strV_append (l r : List ByteArray) : strV (l ++ r) = strV l ++ strV r := by simp [strV]
theorem strV_get (l : List ByteArray) (j : Nat) (h : j < l.length) : (strV l)[j]? = some (.string l[j]) := by simp [strV, List.getElem?_eq_getElem h]

/-- where the scan of b13SplitTwo stands: out holds ps; start and i -/
def SRel (s : ByteArray) (sep : UInt8) (B : Nat) (w : World) (v : Value) (st i : Nat) (wr : World) : Prop :=
  ∃ ps : List ByteArray, ps.length ≤ st ∧ st ≤ i ∧ i ≤ s.size ∧ E sep ps = (bl s).take st ∧ (∀ k, st ≤ k → k < i → (bl s)[k]? ≠ some sep) ∧ (st = 0 ∨ (bl s)[st - 1]? = some sep) ∧
    wr.ownsRow B 9 1 v ps.length (strV ps) ∧ Below B w wr ∧ B ≤ wr.heap.size
theorem SRel.skip {s : ByteArray} {sep : UInt8} {B : Nat} {w : World} {v : Value} {st i : Nat} {wr : World} (h : SRel s sep B w v st i wr) (hi : i < s.size) (hne : (bl s)[i]? ≠ some sep) : SRel s sep B w v st (i + 1) wr := by
  obtain ⟨ps, h1, h2, h3, h4, h5, h6, h7⟩ := h
  refine ⟨ps, h1, by omega, by omega, h4, fun k hk1 hk2 => ?_, h6, h7⟩
  by_cases e : k = i
  · subst e; exact hne
  · exact h5 k hk1 (by omega)
theorem take_ext (l : List UInt8) (st i : Nat) (h : st ≤ i) : l.take st ++ ((l.take i).drop st) = l.take i := by
  have := List.take_append_drop st (l.take i)
  rw [List.take_take, Nat.min_eq_left h] at this
  exact this
/-- what b13SplitTwo hands back -/
def SPost (s : ByteArray) (sep : UInt8) (w : World) (e : Ending) (w' : World) : Prop :=
  ∃ (ps : List ByteArray) (l : ByteArray) (v : Value), e = .returned v ∧ w'.ownsRow w.heap.size 9 1 v (ps.length + 1) (strV (ps ++ [l])) ∧ E sep ps ++ bl l = bl s ∧ ps.length ≤ s.size ∧
    (l.size = 0 → s.size = 0 ∨ (bl s)[s.size - 1]? = some sep) ∧ ((bl s)[s.size - 1]? = some sep → l.size = 0) ∧ (ps.length = 0 → l.size = 0 → s.size = 0) ∧ Below w.heap.size w w'
theorem bl_at (s : ByteArray) (k : Nat) (h : k < s.size) : (bl s)[k]? = some s[k] := by
  unfold bl; rw [List.getElem?_eq_getElem (by simpa using h)]; rfl
theorem byte_ne {s : ByteArray} {k : Nat} {sep : UInt8} (h : k < s.size) (hn : ((s[k].toNat : Int) == (sep.toNat : Int)) = false) : (bl s)[k]? ≠ some sep := by
  rw [bl_at s k h]; intro e; injection e with e; rw [e] at hn; simp at hn
theorem byte_eq {s : ByteArray} {k : Nat} {sep : UInt8} (h : k < s.size) (hn : ((s[k].toNat : Int) == (sep.toNat : Int)) = true) : (bl s)[k]? = some sep := by
  rw [bl_at s k h]; congr 1; apply UInt8.toNat_inj.1; have h2 := eq_of_beq hn; omega
theorem SRel.cut {s : ByteArray} {sep : UInt8} {B : Nat} {w : World} {v v1 : Value} {st i : Nat} {wr w1 : World} {o : Obj} {ps : List ByteArray} (hl : ps.length ≤ st) (h1 : st ≤ i) (h2 : i < s.size) (h4 : E sep ps = (bl s).take st)
    (he : (bl s)[i]? = some sep) (hown : w1.ownsRow B 9 1 v1 (ps.length + 1) (strV ps ++ [.string (s.extract st i)])) (hg : (wr.alloc o).grownBy w1 v.ownBlock) (hrow : wr.ownsRow B 9 1 v ps.length (strV ps)) (hb : Below B w wr) (hB : B ≤ wr.heap.size) :
    SRel s sep B w v1 (i + 1) (i + 1) w1 := by
  refine ⟨ps ++ [s.extract st i], by simp; omega, by omega, by omega, ?_, fun k hk1 hk2 => by omega, .inr (by simpa using he), ?_, (hb.alloc hB o).grown hg (by simp; omega) (own_row_ge hrow), by have := hg.size; simp at this; omega⟩
  · rw [E_snoc, h4, extract_bl, ← List.append_assoc, take_ext _ _ _ h1]
    have hi : i < (bl s).length := by rw [bl_length]; exact h2
    rw [List.take_succ_eq_append_getElem hi]
    congr 2
    rw [List.getElem?_eq_getElem hi] at he; injection he with he; exact he.symm
  · rw [List.length_append, List.length_singleton, strV_append]; exact hown
theorem SPost.mk {s : ByteArray} {sep : UInt8} {w : World} {v v1 : Value} {st : Nat} {wr w1 : World} {o : Obj} {ps : List ByteArray} (hl : ps.length ≤ st) (h1 : st ≤ s.size) (h4 : E sep ps = (bl s).take st)
    (h5 : ∀ k, st ≤ k → k < s.size → (bl s)[k]? ≠ some sep) (h6 : st = 0 ∨ (bl s)[st - 1]? = some sep) (hown : w1.ownsRow w.heap.size 9 1 v1 (ps.length + 1) (strV ps ++ [.string (s.extract st s.size)]))
    (hg : (wr.alloc o).grownBy w1 v.ownBlock) (hrow : wr.ownsRow w.heap.size 9 1 v ps.length (strV ps)) (hb : Below w.heap.size w wr) (hB : w.heap.size ≤ wr.heap.size) : SPost s sep w (.returned v1) w1 := by
  have hlen : bl (s.extract st s.size) = (bl s).drop st := by rw [extract_bl, List.take_of_length_le (by rw [bl_length]; exact Nat.le_refl _)]
  have hsz : (s.extract st s.size).size = s.size - st := by rw [← bl_length, hlen, List.length_drop, bl_length]
  refine ⟨ps, s.extract st s.size, v1, rfl, by rw [strV_append]; exact hown, ?_, by omega, ?_, ?_, ?_, (hb.alloc hB o).grown hg (by simp; omega) (own_row_ge hrow)⟩
  · rw [h4, hlen, List.take_append_drop]
  · intro h
    have : st = s.size := by omega
    subst this
    rcases h6 with h6 | h6
    · exact .inl h6
    · exact .inr h6
  · intro h
    rcases Nat.lt_or_ge st s.size with hlt | hge
    · exact absurd h (h5 (s.size - 1) (by omega) (by omega))
    · omega
  · intro h0 h
    have hp : ps = [] := List.eq_nil_of_length_eq_zero h0
    subst hp
    have e := congrArg List.length h4
    simp [E, bl_length] at e
    omega
set_option maxHeartbeats 2000000 in
theorem split_any (s : ByteArray) (sep : UInt8) (w : World) (hs : s.size ≤ 1048576) :
    Calls Try.prog 17 #[.string s, .int .u8 sep.toNat, .int .u8 sep.toNat] w (SPost s sep w) := by
  obtain ⟨i0, hi, hz0, hz1, hz2⟩ := info_parts cloneS_info
  go_enter Try.func17, Try.ntmps17
  go_wp2
  go_loopw [7, 8, 9] (fun v x i wr => ∃ (st k : Nat), x = .int .i64 st ∧ i = .int .i64 k ∧ SRel s sep w.heap.size w v st k wr) (fun _ _ i _ => s.size - (intOf i).toNat)
  case atStart => exact ⟨0, 0, rfl, rfl, [], by simp, by omega, by omega, rfl, fun k _ h => by omega, .inl rfl, World.ownsRow_nil _ _ _ _, Below.refl _ _, Nat.le_refl _⟩
  case round =>
    obtain ⟨st, k, rfl, rfl, hr⟩ := hrel
    have H := Lib.hid hr
    obtain ⟨ps, r1, r2, r3, r4, r5, r6, r7, r8, r9⟩ := hr
    have R4 := Lib.hid r4
    have R5 := Lib.hid r5
    have R6 := Lib.hid r6
    have R7 := Lib.hid r7
    have R8 := Lib.hid r8
    clear r4 r5 r6 r7 r8
    by_cases hlt : k < s.size
    · cases hb : ((s[k].toNat : Int) == (sep.toNat : Int)) with
      | false =>
        have HN := Lib.hid (byte_ne hlt hb)
        go_wp2
        go_roundw
        case rel => exact ⟨st, k + 1, rfl, by go_num, H.out.skip hlt HN.out⟩
        case measure => simp [intOf]; omega
      | true =>
        have HN := Lib.hid (byte_eq hlt hb)
        have hown := R7.out
        go_wp2_with (at_builtin; refine wpList_append_own _ rfl _ _ 22 rfl w.heap.size 9 i0 (.string ⟨#[]⟩) 1 16 Try.underlying22 hi hz0 hz1 hz2 rfl (by decide) _ _ _ rfl (hown.alloc _) ⟨wr.heap.size, 0, none⟩ 1 1 [.string (s.extract st k)] rfl rfl one_new ?c2 ?c3 ?c4 ?c5 ?_)
        case c2 => intro x hx; simp at hx; subst hx; rfl
        case c3 => unfold maxLen; omega
        case c4 => omega
        case c5 => simp; omega
        intro v1 w1 hown1 hgrow1 _
        have R := Lib.hid (SRel.cut (w := w) r1 r2 hlt R4.out HN.out hown1 hgrow1 R7.out R8.out r9)
        clear hown1 hgrow1 hown
        go_wp2
        go_roundw
        case rel => exact ⟨k + 1, k + 1, by go_num, by go_num, R.out⟩
        case measure => simp [intOf]; omega
    · obtain rfl : k = s.size := by omega
      have hown := R7.out
      go_wp2_with (at_builtin; refine wpList_append_own _ rfl _ _ 22 rfl w.heap.size 9 i0 (.string ⟨#[]⟩) 1 16 Try.underlying22 hi hz0 hz1 hz2 rfl (by decide) _ _ _ rfl (hown.alloc _) ⟨wr.heap.size, 0, none⟩ 1 1 [.string (s.extract st s.size)] rfl rfl one_new ?d2 ?d3 ?d4 ?d5 ?_)
      case d2 => intro x hx; simp at hx; subst hx; rfl
      case d3 => unfold maxLen; omega
      case d4 => omega
      case d5 => simp; omega
      intro v1 w1 hown1 hgrow1 _
      have R := Lib.hid (SPost.mk r1 r2 R4.out R5.out R6.out hown1 hgrow1 R7.out R8.out r9)
      clear hown1 hgrow1 hown
      go_wp2
      go_ret
      exact R.out

/-! ### b13Join -/
theorem path_info5 : (Try.prog.info? 5).map (fun i => (i.zero, i.size, i.bytes)) = some (some (.int .u8 0), 1, 1) := by kernel_rfl
theorem J_take_succ (sep : UInt8) (ps : List ByteArray) (k : Nat) (h : k < ps.length) : J sep (ps.take (k + 1)) = E sep (ps.take k) ++ bl ps[k] := by
  rw [List.take_succ_eq_append_getElem h, J_snoc]
theorem J_le (sep : UInt8) (ps : List ByteArray) (k : Nat) : (J sep (ps.take k)).length ≤ (E sep ps).length := Nat.le_trans (J_length sep _) (E_take_le sep ps k)
def JRel (sep : UInt8) (ps : List ByteArray) (w : World) (v : Value) (k : Nat) (wr : World) : Prop :=
  wr.ownsRow w.heap.size 5 1 v (J sep (ps.take k)).length (bytesV (J sep (ps.take k))) ∧ Below w.heap.size w wr ∧ w.heap.size ≤ wr.heap.size
theorem strCells_bl (s : ByteArray) : Lib.strCells s = bytesV (bl s) := rfl
theorem JRel.first {sep : UInt8} {ps : List ByteArray} {w : World} {v v1 : Value} {wr w1 : World} (h : JRel sep ps w v 0 wr) (hl : 0 < ps.length) (h1 : w1.ownsRow w.heap.size 5 1 v1 (0 + ps[0].size) (bytesV (J sep (ps.take 0)) ++ Lib.strCells ps[0])) (g1 : wr.grownBy w1 v.ownBlock) : JRel sep ps w v1 1 w1 := by
  obtain ⟨a, b, c⟩ := h
  have e : J sep (ps.take 1) = bl ps[0] := by rw [J_take_succ sep ps 0 hl]; simp [E]
  refine ⟨?_, b.grown g1 c (own_row_ge a), by have := g1.size; omega⟩
  rw [e, bl_length]
  simpa [J, bytesV_nil, strCells_bl] using h1
theorem JRel.next {sep : UInt8} {ps : List ByteArray} {w : World} {v v1 v2 : Value} {k : Nat} {wr w1 w2 : World} {o : Obj} (h : JRel sep ps w v k wr) (hk : 0 < k) (hl : k < ps.length)
    (h1 : w1.ownsRow w.heap.size 5 1 v1 ((J sep (ps.take k)).length + 1) (bytesV (J sep (ps.take k)) ++ [.int .u8 (sep.toNat : Int)])) (g1 : (wr.alloc o).grownBy w1 v.ownBlock)
    (h2 : w2.ownsRow w.heap.size 5 1 v2 ((J sep (ps.take k)).length + 1 + ps[k].size) (bytesV (J sep (ps.take k)) ++ [.int .u8 (sep.toNat : Int)] ++ Lib.strCells ps[k])) (g2 : w1.grownBy w2 v1.ownBlock) : JRel sep ps w v2 (k + 1) w2 := by
  obtain ⟨a, b, c⟩ := h
  have hne : ps.take k ≠ [] := by intro e; have h2 : (ps.take k).length = 0 := by rw [e]; rfl
                                  rw [List.length_take] at h2; omega
  have e : J sep (ps.take (k + 1)) = J sep (ps.take k) ++ [sep] ++ bl ps[k] := by rw [J_take_succ sep ps k hl, E_eq sep _ hne]
  have s1 := g1.size
  rw [World.size_alloc] at s1
  have c1 : w.heap.size ≤ w1.heap.size := by omega
  have c2 := g2.size
  refine ⟨?_, ((b.alloc c o).grown g1 (by simp; omega) (own_row_ge a)).grown g2 c1 (own_row_ge h1), by omega⟩
  rw [e, bytesV_append, bytesV_append]
  simp only [List.length_append, List.length_singleton, bl_length]
  exact h2
set_option maxHeartbeats 2000000 in
theorem join_any (B0 g cap : Nat) (ps : List ByteArray) (sep : UInt8) (w : World) (hrow : w.ownsRow B0 9 1 (.slice (some ⟨g, 0, none⟩) ps.length cap) ps.length (strV ps)) (hlen : (E sep ps).length ≤ 4194304) :
    Calls Try.prog 18 #[.slice (some ⟨g, 0, none⟩) ps.length cap, .int .u8 sep.toNat] w fun e w' => e = .returned (.string ⟨(J sep ps).toArray⟩) ∧ Below w.heap.size w w' := by
  obtain ⟨i0, hi, hz0, hz1, hz2⟩ := info_parts path_info5
  have hpl : ps.length ≤ 4194304 := Nat.le_trans (E_length sep ps) hlen
  have hg : g < w.heap.size := (hrow.lt g rfl).2
  have HL := Lib.hid (fun k => Nat.le_trans (J_le sep ps k) hlen)
  have HC := Lib.hid (fun k (hk : k < ps.length) => (hrow.cellAt k (by omega)).trans (strV_get ps k hk))
  clear hrow hlen
  go_enter Try.func18, Try.ntmps18
  go_wp2
  go_loopw [5, 6] (fun v i wr => ∃ k : Nat, k ≤ ps.length ∧ i = .int .i64 k ∧ JRel sep ps w v k wr) (fun _ i _ => ps.length - (intOf i).toNat)
  case atStart => exact ⟨0, by omega, rfl, World.ownsRow_nil _ _ _ _, Below.refl _ _, Nat.le_refl _⟩
  case round =>
    obtain ⟨k, hk, rfl, hr⟩ := hrel
    have H := Lib.hid hr
    clear hr
    by_cases hlt : k < ps.length
    · have hc := cb H.out.2.1 hg (HC.out k hlt)
      have hl1 := HL.out k
      have hl2 := HL.out (k + 1)
      have hown := H.out.1
      have hsz := H.out.2.2
      rw [J_take_succ sep ps k hlt, List.length_append, bl_length] at hl2
      by_cases h0 : k = 0
      · subst h0
        go_wp2_with (at_builtin; refine Lib.wpList_append_own_string _ rfl _ _ 43 9 rfl w.heap.size 5 i0 Try.underlying43 Try.underlying9 hi hz0 hz1 hz2 _ _ _ rfl hown ps[0] rfl ?c1 ?c2 ?c3 ?_)
        case c1 => unfold maxLen; simp [J]; omega
        case c2 => simp [J]; omega
        case c3 => omega
        intro v1 w1 h1 g1 _
        have R := Lib.hid (H.out.first hlt (by simpa [J] using h1) g1)
        clear h1 g1 hown hc
        go_wp2
        go_roundw
        case rel => exact ⟨1, by omega, by go_num, R.out⟩
        case measure => simp [intOf]; omega
      · have hk0 : 0 < k := by omega
        have hk1 : decide ((0 : Int) < (k : Int)) = true := by simp; omega
        go_wp2_with (at_builtin; refine wpList_append_own _ rfl _ _ 43 rfl w.heap.size 5 i0 (.int .u8 0) 1 1 Try.underlying43 hi hz0 hz1 hz2 rfl (by decide) _ _ _ rfl (hown.alloc _) ⟨wr.heap.size, 0, none⟩ 1 1 [.int .u8 (sep.toNat : Int)] rfl rfl one_new ?d2 ?d3 ?d4 ?d5 ?_)
        case d2 => intro x hx; simp at hx; subst hx; rfl
        case d3 => unfold maxLen; omega
        case d4 => omega
        case d5 => simp; omega
        intro v1 w1 h1 g1 _
        have b1 : Below w.heap.size w w1 := ((H.out.2.1.alloc hsz _).grown g1 (by simp; omega) (own_row_ge hown))
        have hc1 := cb b1 hg (HC.out k hlt)
        have hs1 : w.heap.size ≤ w1.heap.size := by have := g1.size; simp at this; omega
        have G1 := Lib.hid g1
        have hown1 := h1
        have B1 := Lib.hid b1
        clear g1 b1 hc h1 hown
        go_wp2_with (at_builtin; refine Lib.wpList_append_own_string _ rfl _ _ 43 9 rfl w.heap.size 5 i0 Try.underlying43 Try.underlying9 hi hz0 hz1 hz2 _ _ _ rfl hown1 ps[k] rfl ?e1 ?e2 ?e3 ?_)
        case e1 => unfold maxLen; omega
        case e2 => omega
        case e3 => omega
        intro v2 w2 h2 g2 _
        have R := Lib.hid (H.out.next hk0 hlt hown1 G1.out (by simpa using h2) g2)
        clear h2 g2 hown1 hc1
        go_wp2
        go_roundw
        case rel => exact ⟨k + 1, by omega, by go_num, R.out⟩
        case measure => simp [intOf]; omega
    · obtain rfl : k = ps.length := by omega
      have hd := H.out.1
      rw [List.take_length] at hd
      have hcv := conv_own (P := Try.prog) 43 9 Try.underlying43 Try.underlying5 Try.underlying9 hd
      have hb := Lib.hid H.out.2.1
      clear hd
      go_wp2
      go_ret
      exact ⟨rfl, hb.out⟩
end Go.Proofs.Ytljbaachfbcbbaa.path
