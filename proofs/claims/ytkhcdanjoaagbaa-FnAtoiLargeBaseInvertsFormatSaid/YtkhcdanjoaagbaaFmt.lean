/-
  What the law's own zzB1Zeros and zzB1Format return, and that atoiLargeBase reads digits back. Conditions: at most 65536 zeros; a base from 2 to 64; a number below 2^64.
-/
import Derived.Test.YtkhcdanjoaagbaaAtoi
namespace Go.Proofs.Ytkhcdanjoaagbaa.fmtd
open Go.ChangeShapes Go.WideShapes Go.ChangeAt Go.RowKit Go.Proofs.Ytkhcdanjoaagbaa.plain Go.Proofs.Ytkhcdanjoaagbaa.own Go.Proofs.Ytkhcdanjoaagbaa.atoi
theorem info5 : (Try.prog.info? 5).map (fun i => (i.zero, i.size, i.bytes)) = some (some (.int .u8 0), 1, 1) := by kernel_rfl
/-! ### plain -/
def tabB (d : Nat) : UInt8 := tab.data[d]?.getD 0
def valL (base : Nat) : List Nat → Nat
  | [] => 0
  | d :: r => d + base * valL base r
theorem valL_append (base : Nat) (l : List Nat) (d : Nat) : valL base (l ++ [d]) = valL base l + d * base ^ l.length := by
  induction l with
  | nil => simp [valL]
  | cons x r ih => simp [valL, ih, Nat.pow_succ, Nat.mul_add, Nat.add_assoc]; rw [Nat.mul_left_comm, Nat.mul_comm (base ^ r.length) base]
theorem tabB_dv (d : Nat) (h : d < 64) : dvN (tabB d).toNat = d := tab_dv d h
theorem atoiF_append (base : Int) (l r : List UInt8) : ∀ n, allGood base l = true → atoiF base (l ++ r) n = atoiF base r (atoiF base l n) := by
  induction l with
  | nil => intro n _; rfl
  | cons c l ih =>
    intro n h
    have hg : goodB base c = true ∧ allGood base l = true := by simpa [allGood] using h
    have hg' : 0 ≤ dvN c.toNat ∧ dvN c.toNat < base := by simpa [goodB] using hg.1
    rw [List.cons_append, atoiF_good base c _ n hg'.1 hg'.2, atoiF_good base c _ n hg'.1 hg'.2]
    exact ih _ hg.2
theorem good_digits (base : Nat) (hb : base ≤ 64) (ds : List Nat) (h : ∀ d ∈ ds, d < base) : allGood (base : Int) (ds.map tabB).reverse = true := by
  simp only [allGood, List.all_eq_true, List.mem_reverse, List.mem_map]
  rintro c ⟨d, hd, rfl⟩
  have h1 := h d hd
  have h2 := tabB_dv d (by omega)
  simp [goodB, h2]; omega
theorem atoi_digits (base : Nat) (hb : base ≤ 64) (ds : List Nat) (h : ∀ d ∈ ds, d < base) : atoiF (base : Int) (ds.map tabB).reverse 0 = wrap64 (valL base ds) := by
  induction ds with
  | nil => simp [atoiF, valL, wrap64]
  | cons d r ih =>
    have hd : d < base := h d (by simp)
    have hr : ∀ x ∈ r, x < base := fun x hx => h x (by simp [hx])
    have hv := tabB_dv d (by omega)
    rw [List.map_cons, List.reverse_cons, atoiF_append _ _ _ _ (good_digits base hb r hr), ih hr]
    rw [atoiF_good _ _ _ _ (by omega) (by omega), hv]
    show wrap64 _ = _
    apply wrap64_eq
    have e1 : wrap64 (wrap64 ((valL base r : Nat) : Int) * (base : Int)) % M = (((valL base r : Nat) : Int) * (base : Int)) % M := by
      rw [wrap64_mod]; exact mul_cong (wrap64_mod _) rfl
    rw [Int.add_emod, e1, ← Int.add_emod]
    congr 1
    simp only [valL]
    push_cast
    rw [Int.mul_comm, Int.add_comm]
theorem atoi_zeros (base : Int) (hb : 0 < base) (k : Nat) (r : List UInt8) : atoiF base (List.replicate k 48 ++ r) 0 = atoiF base r 0 := by
  induction k with
  | zero => rfl
  | succ k ih =>
    have hv : dvN (48 : UInt8).toNat = 0 := rfl
    rw [List.replicate_succ, List.cons_append, atoiF_good base _ _ _ (by omega) (by omega), hv]
    have : wrap64 (wrap64 (0 * base) + 0) = 0 := by rw [Int.zero_mul]; simp [wrap64]
    rw [this]; exact ih
theorem pow_len (base : Nat) (hb : 2 ≤ base) (u U n : Nat) (v : Nat) (hu : 0 < u) (h : U = u * base ^ n + v) (hU : U < 18446744073709551616) : n < 64 := by
  rcases Nat.lt_or_ge n 64 with h' | h'
  · exact h'
  · have h1 : 2 ^ 64 ≤ base ^ n := Nat.le_trans (Nat.pow_le_pow_right (by omega) h') (Nat.pow_le_pow_left hb n)
    have h2 : base ^ n ≤ u * base ^ n := Nat.le_mul_of_pos_left _ hu
    have h3 : (2 : Nat) ^ 64 = 18446744073709551616 := rfl
    omega
/-! ### zzB1Zeros -/
set_option maxHeartbeats 1000000 in
theorem zeros_any (k : Nat) (w : World) (hk : k ≤ 65536) :
    Calls Try.prog 10 #[.int .i64 k] w fun e w' => e = .returned (.string ⟨(List.replicate k (48 : UInt8)).toArray⟩) ∧ Below w.heap.size w w' := by
  obtain ⟨i0, hi, hz0, hz1, hz2⟩ := info_parts info5
  have hvl : (bytesV (List.replicate k (48 : UInt8))).length = k := by simp [bytesV]
  have HL := Lib.hid hvl
  clear hvl
  go_enter Try.func10, Try.ntmps10
  go_wp2_with (at_make; refine wpList_make_full _ rfl _ _ 31 rfl w.heap.size 5 i0 (.int .u8 0) 1 Try.underlying31 hi hz0 hz1 .i64 .i64 _ _ k rfl rfl ?c0 ?c1 ?c2 ?c3 ?c4 ?_)
  case c0 => rfl
  case c1 => rfl
  case c2 => rw [hz2]; omega
  case c3 => unfold maxLen; omega
  case c4 => exact Nat.le_refl _
  intro w1 hown hgrow
  have HR := Lib.hid (Filling.start (vs := bytesV (List.replicate k (48 : UInt8))) (z := .int .u8 0) HL.out (Below.refl w.heap.size w) (Nat.le_refl _) hown hgrow)
  clear hown hgrow
  go_wp2
  go_loopw [4] (fun i wr => ∃ j : Nat, j ≤ k ∧ i = .int .i64 j ∧ Filling w.heap.size w.heap.size 5 (bytesV (List.replicate k (48 : UInt8))) (.int .u8 0) w j wr) (fun i _ => k - (intOf i).toNat)
  case atStart => exact ⟨0, by omega, rfl, HR.out⟩
  case round =>
    obtain ⟨j, hj, rfl, hr⟩ := hrel
    have H := Lib.hid hr
    clear hr HR
    by_cases hlt : j < k
    · have c0 := H.out.cell (by rw [HL.out]; exact hlt)
      have f0 := H.out.free
      have R := Lib.hid (H.out.store (Nat.le_refl _) (.int .u8 48) (by rw [bytesV_get _ _ (by simpa using hlt)]; simp))
      go_wp2
      go_roundw
      case rel => exact ⟨j + 1, by omega, by go_num, R.out⟩
      case measure => simp [intOf]; omega
    · obtain rfl : j = k := by omega
      have hd : wr.ownsRow w.heap.size 5 1 (.slice (some ⟨w.heap.size, 0, none⟩) j j) j (bytesV (List.replicate j (48 : UInt8))) := by
        have h := H.out
        have h' : Filling w.heap.size w.heap.size 5 (bytesV (List.replicate j (48 : UInt8))) (.int .u8 0) w (bytesV (List.replicate j (48 : UInt8))).length wr := by rw [HL.out]; exact h
        have h2 := h'.done
        rw [HL.out] at h2; exact h2
      have hcv := conv_own (P := Try.prog) 31 9 Try.underlying31 Try.underlying5 Try.underlying9 hd
      have hbl := H.out.2.1
      clear hd
      go_wp2
      go_ret
      exact ⟨rfl, hbl⟩

/-! ### zzB1Format -/
def FRel (U base B : Nat) (w : World) (u : Nat) (ds : List Nat) (v : Value) (wr : World) : Prop :=
  U = u * base ^ ds.length + valL base ds ∧ (∀ d ∈ ds, d < base) ∧ wr.ownsRow B 5 1 v ds.length (bytesV (ds.map tabB)) ∧ Below B w wr ∧ B ≤ wr.heap.size ∧ ds.length ≤ 64
theorem FRel_step {U base B : Nat} {w : World} {u : Nat} {ds : List Nat} {v v1 : Value} {wr w1 : World} {o : Obj} (hb : 0 < base) (h : FRel U base B w u ds v wr) (hl : ds.length < 64)
    (h1 : w1.ownsRow B 5 1 v1 (ds.length + 1) (bytesV (ds.map tabB) ++ [.int .u8 ((tabB (u % base)).toNat : Int)])) (g1 : (wr.alloc o).grownBy w1 v.ownBlock) :
    FRel U base B w (u / base) (ds ++ [u % base]) v1 w1 := by
  obtain ⟨r1, r2, r3, r4, r5, _⟩ := h
  refine ⟨?_, ?_, ?_, (r4.alloc r5 o).grown g1 (by simp; omega) (own_row_ge r3), by have := g1.size; simp at this; omega, by simp; omega⟩
  · rw [valL_append, List.length_append, List.length_singleton, Nat.pow_succ, r1]
    have e : u = base * (u / base) + u % base := (Nat.div_add_mod u base).symm
    have e2 : u * base ^ ds.length = u / base * (base ^ ds.length * base) + u % base * base ^ ds.length := by
      calc u * base ^ ds.length = (base * (u / base) + u % base) * base ^ ds.length := by rw [← e]
        _ = _ := by rw [Nat.add_mul, Nat.mul_comm base, Nat.mul_assoc, Nat.mul_comm base]
    omega
  · intro d hd
    simp at hd
    rcases hd with hd | rfl
    · exact r2 d hd
    · exact Nat.mod_lt _ hb
  · rw [List.length_append, List.map_append, bytesV_append]; exact h1
theorem quoW (u base : Nat) (hu : u < 18446744073709551616) : IntKind.u64.wrap ((u : Int) / (base : Int)) = ((u / base : Nat) : Int) := by
  have h : u / base ≤ u := Nat.div_le_self u base
  have e : (u : Int) / (base : Int) = ((u / base : Nat) : Int) := (Int.natCast_ediv u base).symm
  rw [e]
  generalize u / base = q at h ⊢
  rw [IntKind.wrap_u64]
  omega
theorem FRel_le {U base B : Nat} {w : World} {u : Nat} {ds : List Nat} {v : Value} {wr : World} (hb : 0 < base) (h : FRel U base B w u ds v wr) : u ≤ U := by
  have h1 : 0 < base ^ ds.length := Nat.pow_pos hb
  have h2 : u ≤ u * base ^ ds.length := Nat.le_mul_of_pos_right _ h1
  have h3 := h.1
  omega
def digAt (ds : List Nat) (j : Nat) : Int := ((((ds.map tabB).reverse)[j]?.getD 0).toNat : Int)
theorem bytesV_reverse (l : List UInt8) : bytesV l.reverse = (bytesV l).reverse := by simp [bytesV]
/-- what the call of zzB1Format leaves: some digits, least first, that stand for U -/
def FPost (U base : Nat) (w : World) (e : Ending) (w' : World) : Prop :=
  ∃ ds : List Nat, (∀ d ∈ ds, d < base) ∧ valL base ds = U ∧ ds.length ≤ 64 ∧ e = .returned (.string ⟨(ds.map tabB).reverse.toArray⟩) ∧ Below w.heap.size w w'
set_option maxHeartbeats 2000000 in
theorem format_any (U base : Nat) (w : World) (hU : U < 18446744073709551616) (hb1 : 2 ≤ base) (hb2 : base ≤ 64) :
    Calls Try.prog 11 #[.int .u64 U, .int .u64 base] w (FPost U base w) := by
  obtain ⟨i0, hi, hz0, hz1, hz2⟩ := info_parts info5
  by_cases h0 : U = 0
  · subst h0
    have HP := Lib.hid (show FPost 0 base w (.returned (.string ⟨#[48]⟩)) w from ⟨[0], by simp; omega, by simp [valL], by simp, rfl, Below.refl _ _⟩)
    go_enter Try.func11, Try.ntmps11
    go_wp2
    go_ret
    exact HP.out
  · have h0' : ((U : Int) == 0) = false := by simp; omega
    have HU := Lib.hid hU
    clear hU
    go_enter Try.func11, Try.ntmps11
    go_wp2
    go_loopw [0, 5] (fun x v wr => ∃ (u : Nat) (ds : List Nat), x = .int .u64 u ∧ FRel U base w.heap.size w u ds v wr) (fun x _ _ => (intOf x).toNat)
    case atStart => exact ⟨U, [], rfl, by simp [valL], by simp, World.ownsRow_nil _ _ _ _, Below.refl _ _, Nat.le_refl _, by simp⟩
    case round =>
      obtain ⟨u, ds, rfl, hr⟩ := hrel
      have H := Lib.hid hr
      clear hr h0
      by_cases hlt : 0 < u
      · have hlen : ds.length < 64 := pow_len base hb1 u U ds.length _ hlt H.out.1 HU.out
        have hown := H.out.2.2.1
        have hsz := H.out.2.2.2.2.1
        have hm1 : u % base < base := Nat.mod_lt _ (by omega)
        have hm2 : (u : Int) % (base : Int) < 64 := by have : ((u % base : Nat) : Int) = (u : Int) % (base : Int) := by simp
                                                       omega
        have hp : u % base < tab.size := Nat.lt_of_lt_of_le hm1 hb2
        have HD := Lib.hid (Nat.div_lt_self hlt hb1)
        go_wp2_with (at_builtin; refine wpList_append_own _ rfl _ _ 31 rfl w.heap.size 5 i0 (.int .u8 0) 1 1 Try.underlying31 hi hz0 hz1 hz2 rfl (by decide) _ _ _ rfl (hown.alloc _) ⟨wr.heap.size, 0, none⟩ 1 1 [.int .u8 ((tab[u % base]'hp).toNat : Int)] rfl rfl one_new ?c2 ?c3 ?c4 ?c5 ?_)
        case c2 => intro x hx; simp at hx; subst hx; rfl
        case c3 => unfold maxLen; omega
        case c4 => omega
        case c5 => simp; omega
        intro v1 w1 hown1 hgrow1 _
        have e1 : (tab[u % base]'hp).toNat = (tabB (u % base)).toNat := tab_at _ hp
        rw [e1] at hown1
        have R := Lib.hid (FRel_step (by omega) H.out hlen hown1 hgrow1)
        clear hown1 hgrow1 e1 hown
        go_wp2
        go_roundw
        case rel => exact ⟨u / base, ds ++ [u % base], by rw [quoW u base (Nat.lt_of_le_of_lt (FRel_le (by omega) H.out) HU.out)], R.out⟩
        case measure => rw [quoW u base (Nat.lt_of_le_of_lt (FRel_le (by omega) H.out) HU.out)]; simp [intOf]; exact HD.out
      · obtain rfl : u = 0 := by omega
        have hpos : 0 < ds.length := by
          rcases Nat.eq_zero_or_pos ds.length with h | h
          · have e : ds = [] := List.eq_nil_of_length_eq_zero h
            have := H.out.1; rw [e] at this; simp [valL] at this
            have h0'' : (U : Int) ≠ 0 := by simpa using h0'
            omega
          · exact h
        have hlen : ds.length ≤ 64 := H.out.2.2.2.2.2
        obtain ⟨wo, rfl⟩ : ∃ wo : World, wo = wr := ⟨_, rfl⟩
        obtain ⟨g, cap, hv, hg1, hg2⟩ := own_form H.out.2.2.1 hpos
        subst hv
        have HV := Lib.hid (show (bytesV (ds.map tabB).reverse).length = ds.length by simp [bytesV])
        have hcl : ∀ j, j < ds.length → wo.cell? ⟨g, ds.length - 1 - j, none⟩ = some (.int .u8 (digAt ds j)) := fun j hj => by
          unfold digAt
          rw [World.ownsRow.cellAt H.out.2.2.1 _ (by omega), bytesV_get _ _ (by simp; omega)]
          rw [List.getElem?_reverse (by simpa using hj)]
          simp only [List.length_map]
          rw [List.getElem?_eq_getElem (by simp; omega)]; rfl
        have HC := Lib.hid hcl
        have HN : ∃ n, n = ds.length := ⟨_, rfl⟩
        clear hcl
        go_wp2_with (at_make; refine wpList_make_full _ rfl _ _ 31 rfl wo.heap.size 5 i0 (.int .u8 0) 1 Try.underlying31 hi hz0 hz1 .i64 .i64 _ _ ds.length rfl rfl ?d0 ?d1 ?d2 ?d3 ?d4 ?_)
        case d0 => rfl
        case d1 => rfl
        case d2 => rw [hz2]; omega
        case d3 => unfold maxLen; omega
        case d4 => exact Nat.le_refl _
        intro w1 hown hgrow
        have HR := Lib.hid (Filling.start (vs := bytesV (ds.map tabB).reverse) (z := .int .u8 0) HV.out (Below.refl wo.heap.size wo) (Nat.le_refl _) hown hgrow)
        clear hown hgrow HN
        go_wp2
        go_loopw [7] (fun i w2 => ∃ j : Nat, j ≤ ds.length ∧ i = .int .i64 j ∧ Filling wo.heap.size wo.heap.size 5 (bytesV (ds.map tabB).reverse) (.int .u8 0) wo j w2) (fun i _ => ds.length - (intOf i).toNat)
        case atStart => exact ⟨0, by omega, rfl, HR.out⟩
        case round =>
          obtain ⟨j, hj, rfl, hr⟩ := hrel
          have H2 := Lib.hid hr
          clear hr HR
          by_cases hlt2 : j < ds.length
          · have c0 := H2.out.cell (by rw [HV.out]; exact hlt2)
            have f0 := H2.out.free
            have l0 := (H2.out.2.1.cell (p := ⟨g, ds.length - 1 - j, none⟩) hg2).trans (HC.out j hlt2)
            have R := Lib.hid (H2.out.store (Nat.le_refl _) (.int .u8 (digAt ds j)) (by unfold digAt; rw [bytesV_get _ _ (by simpa using hlt2)]; simp [List.getElem?_eq_getElem (show j < ((ds.map tabB).reverse).length by simpa using hlt2)]))
            go_wp2
            go_roundw
            case rel => exact ⟨j + 1, by omega, by go_num, R.out⟩
            case measure => simp [intOf]; omega
          · obtain rfl : j = ds.length := by omega
            have hd : wr.ownsRow wo.heap.size 5 1 (.slice (some ⟨wo.heap.size, 0, none⟩) ds.length ds.length) ds.length (bytesV (ds.map tabB).reverse) := by
              have h := H2.out
              have h' : Filling wo.heap.size wo.heap.size 5 (bytesV (ds.map tabB).reverse) (.int .u8 0) wo (bytesV (ds.map tabB).reverse).length wr := by rw [HV.out]; exact h
              have h2 := h'.done
              rw [HV.out] at h2; exact h2
            have hcv := conv_own (P := Try.prog) 31 9 Try.underlying31 Try.underlying5 Try.underlying9 hd
            have HP := Lib.hid (show FPost U base w (.returned (.string ⟨(ds.map tabB).reverse.toArray⟩)) wr from ⟨ds, H.out.2.1, by have := H.out.1; omega, hlen, rfl, H.out.2.2.2.1.trans (H2.out.2.1.mono H.out.2.2.2.2.1)⟩)
            clear hd
            go_wp2
            go_ret
            exact HP.out
end Go.Proofs.Ytkhcdanjoaagbaa.fmtd
