/-
  For all strings a and b, FnPathJoin2PiecesModel returns true. No conditions.
  The frame round the walk was written by a printer (mkframe.py), after the kit's own shells.
-/
import Derived.Test.YtljbaachfbcbbaaRows
import Derived.WalkKit
import Derived.ProofKit
import Derived.OpenShut
import Derived.Test.YtljbaachfbcbbaaJoin2
import Derived.ShutString
import Derived.ChangeOld
import Derived.Below
namespace Go.Proofs.Ytljbaachfbcbbaa.fnPathJoin2PiecesModel
open Go.ChangeShapes Go.WideShapes Go.ChangeAt Go.RowKit
open Go.ChangeMaps (open_string shut_string)
set_option linter.unusedVariables false
open Go.Proofs.Ytljbaachfbcbbaa.own
open Go.Proofs.Ytljbaachfbcbbaa.path
open Go.Proofs.Ytljbaachfbcbbaa.vars (cloneS_info)

theorem own : ownKnob Try.prog.godebug = none := by kernel_rfl
theorem laidOut : laidOutB Try.prog = true := by kernel_rfl

theorem split47 (s : ByteArray) (w : World) (hs : s.size ≤ 1048576) : Calls Try.prog 17 #[.string s, .int .u8 47, .int .u8 47] w (SPost s 47 w) := split_any s 47 w hs
theorem join47 (B0 g cap : Nat) (ps : List ByteArray) (r : ByteArray) (n : Nat) (w : World) (hn : n = ps.length) (hrow : w.ownsRow B0 9 1 (.slice (some ⟨g, 0, none⟩) ps.length cap) ps.length (strV ps)) (hlen : (E 47 ps).length ≤ 4194304) (hr : J 47 ps = bl r) :
    Calls Try.prog 18 #[.slice (some ⟨g, 0, none⟩) n cap, .int .u8 47] w fun e w' => e = .returned (.string r) ∧ Below w.heap.size w w' := by
  subst hn
  exact (join_any B0 g cap ps 47 w hrow hlen).mono fun e w' h => ⟨by rw [h.1, hr]; rfl, h.2⟩
theorem bl_append (a b : ByteArray) : bl (a ++ b) = bl a ++ bl b := by
  unfold bl; rw [ByteArray.data_append, Array.toList_append]
theorem src_cells {w w' : World} {B g n cap : Nat} {xs : List ByteArray} {ys : List ByteArray} (h : w.ownsRow B 9 1 (.slice (some ⟨g, 0, none⟩) n cap) n (strV (xs ++ ys))) (hb : Below w.heap.size w w') :
    ∀ j u, (strV xs)[j]? = some u → w'.cell? ((⟨g, 0, none⟩ : Addr).add j) = some u := by
  intro j u hj
  have h1 : (strV (xs ++ ys))[j]? = some u := by
    rw [strV_append, List.getElem?_append_left (List.getElem?_eq_some_iff.1 hj).1]; exact hj
  have h2 := World.ownsRow.cells h (g := g) rfl j u h1
  exact cb hb (cell_lt h2) h2
theorem one_cells (l : List ByteArray) : ∀ u ∈ strV l, u.oneCell' = true := by
  intro u hu
  simp [strV] at hu
  obtain ⟨x, _, rfl⟩ := hu
  rfl
theorem E_len (s : ByteArray) (ps : List ByteArray) (l : ByteArray) (h : E 47 ps ++ bl l = bl s) : (E 47 ps).length ≤ s.size ∧ (E 47 (ps ++ [l])).length = s.size + 1 ∧ ps.length ≤ s.size := by
  have e := congrArg List.length h
  rw [List.length_append, bl_length, bl_length] at e
  have h2 := E_length 47 ps
  refine ⟨by omega, ?_, by omega⟩
  rw [E_snoc, ← List.append_assoc, h, List.length_append, bl_length]; rfl
theorem yes_join (a b : ByteArray) (ps qs : List ByteArray) (l m : ByteArray) (h1 : E 47 ps ++ bl l = bl a) (hl : l.size = 0) (h2 : E 47 qs ++ bl m = bl b) : J 47 (ps ++ (qs ++ [m])) = bl (a ++ b) := by
  rw [J_append _ _ _ (by simp), J_snoc, h2, bl_append, ← h1]
  have : bl l = [] := List.eq_nil_of_length_eq_zero (by rw [bl_length]; exact hl)
  rw [this]; simp
theorem no_join (a b : ByteArray) (ps qs : List ByteArray) (l m : ByteArray) (h1 : E 47 ps ++ bl l = bl a) (h2 : E 47 qs ++ bl m = bl b) : J 47 ((ps ++ [l]) ++ (qs ++ [m])) = bl (a ++ ⟨#[47]⟩ ++ b) := by
  rw [J_append _ _ _ (by simp), J_snoc, h2, bl_append, bl_append, E_snoc, ← List.append_assoc, h1]; rfl
theorem own_cap {w : World} {B e size g n cap : Nat} {xs : List Value} (h : w.ownsRow B e size (.slice (some ⟨g, 0, none⟩) n cap) n xs) : n ≤ cap := by
  rcases h.2 with ⟨h', _⟩ | ⟨g', cap', cur, h', _, _, hnc, _⟩
  · simp at h'
  · simp at h'; omega
theorem empty_is {l : ByteArray} (h : l.size = 0) : l = ⟨#[]⟩ := bl_inj (by
  have e : (bl l).length = 0 := by rw [bl_length]; exact h
  rw [List.eq_nil_of_length_eq_zero e]; rfl)
set_option maxHeartbeats 4000000 in
theorem walk (a0 : ByteArray) (a1 : ByteArray) (w : World) (w0 : a0.size ≤ maxLen) (w1 : a1.size ≤ maxLen) :
    Calls Try.prog 4 #[.string a0, .string a1] w fun e w' => e = .returned (.bool true) ∧ Below w.heap.size w w' := by
  unfold maxLen at w0 w1
  obtain ⟨i0, hi, hz0, hz1, hz2⟩ := info_parts cloneS_info
  by_cases hbig : a0.size + a1.size ≤ 1048576
  rotate_left
  · go_enter Try.func4, Try.ntmps4
    go_wp2
    all_goals (go_ret; exact ⟨rfl, Below.refl _ _⟩)
  by_cases h0 : 0 < a0.size
  rotate_left
  · obtain rfl : a0 = ⟨#[]⟩ := empty_is (by omega)
    go_enter Try.func4, Try.ntmps4
    go_wp2_with (first | (go_at_call 15; refine (sep_is _).mono ?_; rintro e w' ⟨rfl, rfl⟩) | (go_at_call 16; refine (pj_nil _ _).mono ?_; rintro e w' ⟨rfl, rfl⟩) | go_in)
    all_goals (go_ret; exact ⟨rfl, Below.refl _ _⟩)
  obtain ⟨n1, n2⟩ := ne_list h0
  cases hx : ((a0.extract (a0.size - 1) a0.size).toList == [47]) with
  | true =>
    have HX := Lib.hid hx
    clear hx
    go_enter Try.func4, Try.ntmps4
    go_wp2_with (first | (go_at_call 14; go_in) | (go_at_call 15; refine (sep_is _).mono ?_; rintro e w' ⟨rfl, rfl⟩) | (go_at_call 16; refine (pj_yes _ _ _ (by omega) (by omega) h0 HX.out).mono ?_; rintro e w' ⟨rfl, rfl⟩))
    refine (split47 a0 w (by omega)).mono ?_
    rintro e w1 ⟨ps, l, v, rfl, ho, hE, hlen, hA, hB, hC, hb1⟩
    obtain ⟨g, cap, rfl, hg0, hg⟩ := own_form ho (by omega)
    have l0 : l.size = 0 := hB ((ends_iff a0 h0).1 HX.out)
    obtain rfl := empty_is l0
    have hcap := own_cap ho
    have hcap' : ps.length ≤ cap := by omega
    have HO := Lib.hid ho
    have cl : w1.cell? ⟨g, ps.length, none⟩ = some (.string ⟨#[]⟩) := by rw [ho.cellAt ps.length (by omega), strV_get _ _ (by simp)]; simp
    have HE := Lib.hid hE
    have HB1 := Lib.hid hb1
    have z1 := hb1.size
    have hC' := hC
    clear ho hE hA hB hC hb1
    have npos : 0 < ps.length := Nat.pos_of_ne_zero fun e => by have := hC' e l0; omega

    go_wp2_with fail
    refine (split47 a1 w1 (by omega)).mono ?_
    rintro e w2 ⟨qs, m, v2, rfl, ho2, hE2, hlen2, _, _, _, hb2⟩
    obtain ⟨g2, cap2, rfl, hg20, hg2⟩ := own_form ho2 (by omega)
    have HO2 := Lib.hid ho2
    have HE2 := Lib.hid hE2
    have HB2 := Lib.hid hb2
    have z2 := hb2.size
    clear ho2 hE2 hb2 cl
    go_wp2_with (at_make; refine wpList_make_own _ rfl _ _ 22 rfl w2.heap.size 9 i0 (.string ⟨#[]⟩) 1 Try.underlying22 hi hz0 hz1 .i64 .i64 _ (ps.length + (qs.length + 1)) rfl rfl ?true0 ?true1 ?true2 ?true3 ?_)
    case true0 => push_cast; omega
    case true1 => rw [hz2]; omega
    case true2 => unfold maxLen; omega
    case true3 => exact Nat.le_refl _
    intro w3 ho3 hg3
    have b3 : Below w2.heap.size w2 w3 := (Below.refl _ _).grown hg3 (Nat.le_refl _) (fun k h => by cases h)
    have hs1 := src_cells HO.out (HB2.out.trans (b3.mono z2))
    have hs2 := src_cells (ys := []) (by rw [List.append_nil]; exact HO2.out) b3
    have z3 := b3.size
    have B3 := Lib.hid b3
    have S1 := Lib.hid hs1
    have S2 := Lib.hid hs2
    clear b3 hs1 hs2 hg3
    go_wp2_with (at_builtin; refine wpList_append_own _ rfl _ _ 22 rfl w2.heap.size 9 i0 (.string ⟨#[]⟩) 1 16 Try.underlying22 hi hz0 hz1 hz2 rfl (by decide) _ _ _ rfl ho3 ⟨g, 0, none⟩ (ps.length) cap (strV ps) rfl ?true4 S1.out (one_cells _) ?true5 ?true6 ?true7 ?_)
    case true4 => rw [strV_length]; simp
    case true5 => unfold maxLen; omega
    case true6 => omega
    case true7 => omega
    intro v4 w4 ho4 hg4 _
    have b4 : Below w2.heap.size w3 w4 := (Below.refl _ _).grown hg4 z3 (fun k h => by cases h; exact Nat.le_refl _)
    have hs3 : ∀ j u, (strV (qs ++ [m]))[j]? = some u → w4.cell? ((⟨g2, 0, none⟩ : Addr).add j) = some u := fun j u hj => cb b4 (by rw [Addr.add_lit]; exact hg2) (S2.out j u hj)
    have S3 := Lib.hid hs3
    have z4 := b4.size
    have B4 := Lib.hid b4
    have HO4 := Lib.hid ho4
    clear hs3 b4 ho3 hg4
    obtain ⟨g4, cap4, rfl, hg40, hg4'⟩ := own_form ho4 (by omega)
    clear ho4
    go_wp2_with (at_builtin; refine wpList_append_own _ rfl _ _ 22 rfl w2.heap.size 9 i0 (.string ⟨#[]⟩) 1 16 Try.underlying22 hi hz0 hz1 hz2 rfl (by decide) _ _ _ rfl HO4.out ⟨g2, 0, none⟩ (qs.length + 1) cap2 (strV (qs ++ [m])) rfl ?true8 S3.out (one_cells _) ?true9 ?true10 ?true11 ?_)
    case true8 => rw [strV_length]; simp
    case true9 => unfold maxLen; omega
    case true10 => omega
    case true11 => omega
    intro v5 w5 ho5 hg5 _
    obtain ⟨g5, cap5, rfl, hg50, hg5'⟩ := own_form ho5 (by omega)
    have b5 : Below w2.heap.size w4 w5 := (Below.refl _ _).grown hg5 (by omega) (fun k h => by cases h; exact hg40)
    have z5 := b5.size
    have B5 := Lib.hid (show Below w.heap.size w w5 from HB1.out.trans ((HB2.out.mono z1).trans ((B3.out.mono (by omega)).trans ((B4.out.mono (by omega)).trans (b5.mono (by omega))))))
    have HO5 := Lib.hid (show w5.ownsRow w2.heap.size 9 1 (.slice (some ⟨g5, 0, none⟩) (ps ++ (qs ++ [m])).length cap5) (ps ++ (qs ++ [m])).length (strV (ps ++ (qs ++ [m]))) by
      rw [strV_append]; have e : (ps ++ (qs ++ [m])).length = 0 + (ps.length) + (qs.length + 1) := by simp only [List.length_append, List.length_singleton]; omega
      rw [e]; simpa using ho5)
    clear ho5 hg5 b5
    go_wp2_with fail
    refine (join47 _ _ _ (ps ++ (qs ++ [m])) _ _ _ (by simp only [List.length_append, List.length_singleton] <;> omega) HO5.out ?true12 (yes_join a0 a1 ps qs ⟨#[]⟩ m HE.out l0 HE2.out)).mono ?_
    case true12 =>
      have e1 := E_len a0 ps ⟨#[]⟩ HE.out
      have e2 := E_len a1 qs m HE2.out
      rw [E_append, List.length_append]; omega
    rintro e w6 ⟨rfl, hb6⟩
    go_wp2_with fail
    go_ret
    exact ⟨rfl, B5.out.trans (hb6.mono B5.out.size)⟩
  | false =>
    have HX := Lib.hid hx
    clear hx
    go_enter Try.func4, Try.ntmps4
    go_wp2_with (first | (go_at_call 14; go_in) | (go_at_call 15; refine (sep_is _).mono ?_; rintro e w' ⟨rfl, rfl⟩) | (go_at_call 16; refine (pj_no _ _ _ (by omega) (by omega) h0 HX.out).mono ?_; rintro e w' ⟨rfl, rfl⟩))
    refine (split47 a0 w (by omega)).mono ?_
    rintro e w1 ⟨ps, l, v, rfl, ho, hE, hlen, hA, hB, hC, hb1⟩
    obtain ⟨g, cap, rfl, hg0, hg⟩ := own_form ho (by omega)
    have l0 : 0 < l.size := Nat.pos_of_ne_zero fun e => by
      rcases hA e with h | h
      · omega
      · have := (ends_iff a0 h0).2 h; rw [HX.out] at this; cases this
    obtain ⟨nl1, nl2⟩ := ne_list l0
    have hcap := own_cap ho
    have hcap' : ps.length ≤ cap := by omega
    have HO := Lib.hid ho
    have cl : w1.cell? ⟨g, ps.length, none⟩ = some (.string l) := by rw [ho.cellAt ps.length (by omega), strV_get _ _ (by simp)]; simp
    have HE := Lib.hid hE
    have HB1 := Lib.hid hb1
    have z1 := hb1.size
    clear ho hE hA hB hC hb1

    go_wp2_with fail
    refine (split47 a1 w1 (by omega)).mono ?_
    rintro e w2 ⟨qs, m, v2, rfl, ho2, hE2, hlen2, _, _, _, hb2⟩
    obtain ⟨g2, cap2, rfl, hg20, hg2⟩ := own_form ho2 (by omega)
    have HO2 := Lib.hid ho2
    have HE2 := Lib.hid hE2
    have HB2 := Lib.hid hb2
    have z2 := hb2.size
    clear ho2 hE2 hb2 cl
    go_wp2_with (at_make; refine wpList_make_own _ rfl _ _ 22 rfl w2.heap.size 9 i0 (.string ⟨#[]⟩) 1 Try.underlying22 hi hz0 hz1 .i64 .i64 _ (ps.length + 1 + (qs.length + 1)) rfl rfl ?false0 ?false1 ?false2 ?false3 ?_)
    case false0 => push_cast; omega
    case false1 => rw [hz2]; omega
    case false2 => unfold maxLen; omega
    case false3 => exact Nat.le_refl _
    intro w3 ho3 hg3
    have b3 : Below w2.heap.size w2 w3 := (Below.refl _ _).grown hg3 (Nat.le_refl _) (fun k h => by cases h)
    have hs1 := src_cells (ys := []) (by rw [List.append_nil]; exact HO.out) (HB2.out.trans (b3.mono z2))
    have hs2 := src_cells (ys := []) (by rw [List.append_nil]; exact HO2.out) b3
    have z3 := b3.size
    have B3 := Lib.hid b3
    have S1 := Lib.hid hs1
    have S2 := Lib.hid hs2
    clear b3 hs1 hs2 hg3
    go_wp2_with (at_builtin; refine wpList_append_own _ rfl _ _ 22 rfl w2.heap.size 9 i0 (.string ⟨#[]⟩) 1 16 Try.underlying22 hi hz0 hz1 hz2 rfl (by decide) _ _ _ rfl ho3 ⟨g, 0, none⟩ (ps.length + 1) cap (strV (ps ++ [l])) rfl ?false4 S1.out (one_cells _) ?false5 ?false6 ?false7 ?_)
    case false4 => rw [strV_length]; simp
    case false5 => unfold maxLen; omega
    case false6 => omega
    case false7 => omega
    intro v4 w4 ho4 hg4 _
    have b4 : Below w2.heap.size w3 w4 := (Below.refl _ _).grown hg4 z3 (fun k h => by cases h; exact Nat.le_refl _)
    have hs3 : ∀ j u, (strV (qs ++ [m]))[j]? = some u → w4.cell? ((⟨g2, 0, none⟩ : Addr).add j) = some u := fun j u hj => cb b4 (by rw [Addr.add_lit]; exact hg2) (S2.out j u hj)
    have S3 := Lib.hid hs3
    have z4 := b4.size
    have B4 := Lib.hid b4
    have HO4 := Lib.hid ho4
    clear hs3 b4 ho3 hg4
    obtain ⟨g4, cap4, rfl, hg40, hg4'⟩ := own_form ho4 (by omega)
    clear ho4
    go_wp2_with (at_builtin; refine wpList_append_own _ rfl _ _ 22 rfl w2.heap.size 9 i0 (.string ⟨#[]⟩) 1 16 Try.underlying22 hi hz0 hz1 hz2 rfl (by decide) _ _ _ rfl HO4.out ⟨g2, 0, none⟩ (qs.length + 1) cap2 (strV (qs ++ [m])) rfl ?false8 S3.out (one_cells _) ?false9 ?false10 ?false11 ?_)
    case false8 => rw [strV_length]; simp
    case false9 => unfold maxLen; omega
    case false10 => omega
    case false11 => omega
    intro v5 w5 ho5 hg5 _
    obtain ⟨g5, cap5, rfl, hg50, hg5'⟩ := own_form ho5 (by omega)
    have b5 : Below w2.heap.size w4 w5 := (Below.refl _ _).grown hg5 (by omega) (fun k h => by cases h; exact hg40)
    have z5 := b5.size
    have B5 := Lib.hid (show Below w.heap.size w w5 from HB1.out.trans ((HB2.out.mono z1).trans ((B3.out.mono (by omega)).trans ((B4.out.mono (by omega)).trans (b5.mono (by omega))))))
    have HO5 := Lib.hid (show w5.ownsRow w2.heap.size 9 1 (.slice (some ⟨g5, 0, none⟩) ((ps ++ [l]) ++ (qs ++ [m])).length cap5) ((ps ++ [l]) ++ (qs ++ [m])).length (strV ((ps ++ [l]) ++ (qs ++ [m]))) by
      rw [strV_append]; have e : ((ps ++ [l]) ++ (qs ++ [m])).length = 0 + (ps.length + 1) + (qs.length + 1) := by simp only [List.length_append, List.length_singleton]; omega
      rw [e]; simpa using ho5)
    clear ho5 hg5 b5
    go_wp2_with fail
    refine (join47 _ _ _ ((ps ++ [l]) ++ (qs ++ [m])) _ _ _ (by simp only [List.length_append, List.length_singleton] <;> omega) HO5.out ?false12 (no_join a0 a1 ps qs l m HE.out HE2.out)).mono ?_
    case false12 =>
      have e1 := E_len a0 ps l HE.out
      have e2 := E_len a1 qs m HE2.out
      rw [E_append, List.length_append]; omega
    rintro e w6 ⟨rfl, hb6⟩
    go_wp2_with fail
    go_ret
    exact ⟨rfl, B5.out.trans (hb6.mono B5.out.size)⟩

/-! ### The row's step (frame) -/
set_option maxRecDepth 100000 in
theorem lifted (os : Os) (started : os.Started) (H : Type) (enc : TypeId × Value → H) :
    ReturnsInHanded {} Try.checked os 4 .any (Rows.fnPathJoin2PiecesModelSpec.pre6 enc Try.prog Try.f4 Rows.fnPathJoin2PiecesModelRow.domain false) (Rows.fnPathJoin2PiecesModelSpec.post enc Try.prog Try.f4 false true false false) := by
  refine returnsInHanded_of_change (C := Try.checked) own started (by kernel_rfl) Try.func4
    (ChangeSpec.witness6 (enc := enc) (C := Try.checked) false ⟨#[], #[.string ByteArray.empty, .string ByteArray.empty], []⟩ 8 (by kernel_rfl) (by kernel_rfl) (by kernel_rfl) (by kernel_rfl)) ?_
  intro W base args ds gs before hval0 hW hcnd _
  have hval : ∀ (j : Nat) t v, Try.f4.params[j]? = some t → args[j]? = some v → Value.okWide Try.prog W .any base t v := hval0
  have hW' := hW
  obtain ⟨p, q, hA0, hV, rfl, hfz, hnd⟩ := hW
  have hA : DataW.TrodAll enc Try.prog W 0 (fun _ => true) true Try.f4.params.toList args.toList ds p := hA0
  rw [Try.params4] at hA hval
  obtain ⟨v0, vs0, d0, ds0, p0, q0, hargs, rfl, rfl, h0, r0⟩ := trodAll_cons hA
  obtain ⟨v1, vs1, d1, ds1, p1, q1, rfl, rfl, rfl, h1, r1⟩ := trodAll_cons r0
  obtain ⟨rfl, rfl, rfl⟩ := trodAll_nil r1
  obtain rfl : args = #[v0, v1] := by cases args; simp_all
  obtain ⟨rfl, rfl⟩ := trodVars_none hV
  obtain ⟨a0, rfl, rfl, rfl, w0⟩ := open_string Try.underlying9 (hval 0 9 v0 rfl rfl) h0
  obtain ⟨a1, rfl, rfl, rfl, w1⟩ := open_string Try.underlying9 (hval 1 9 v1 rfl rfl) h1
  clear hA0 hval0
  refine (walk a0 a1 W w0 w1).mono fun e W' ⟨he, bel⟩ => ?_
  subst he
  exact ⟨_, rfl, _, _, _, [], _, [], hW', trodAll_mk1 (shut_bool Try.underlying4 _), (trodAll_cons_mk (shut_string Try.underlying9 w0) (trodAll_cons_mk (shut_string Try.underlying9 w1) trodAll_mk0)), rfl, bel.frame _, fun h => by cases h⟩

theorem over : Rows.fnPathJoin2PiecesModelRow.holds Try.pinned (OpenSpec.ofChange Rows.fnPathJoin2PiecesModelSpec) :=
  OpenClaim.holds_of_wide 4 Try.f4 rfl rfl rfl rfl rfl rfl rfl ⟨rfl, rfl, rfl, rfl, rfl⟩ rfl rfl rfl rfl rfl (by kernel_rfl) Try.func4 (by kernel_rfl)
    (of_decide_eq_true (by kernel_rfl)) (by unfold Func.isWrapper; first | (rw [if_pos (by decide +kernel)]; kernel_rfl) | (rw [if_neg (by decide +kernel)]; exact ⟨rfl, rfl⟩))
    (fun os started H enc _ => lifted os started H enc)

/-- The statement. -/
theorem proved : Rows.FnPathJoin2PiecesModelSaid := over
#print axioms proved
end Go.Proofs.Ytljbaachfbcbbaa.fnPathJoin2PiecesModel
