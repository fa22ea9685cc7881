/-
  For every int k, FnSingleFlagRoundTrip returns true. The table math/bits.deBruijn32tab starts as the program's text lays it (the card ties it).
  The frame round the walk was written by a printer (mkframe.py), after the kit's own shells.
-/
import Derived.Test.YtjhnnfbnfgaheaaDoorRows
import Derived.WalkKit
import Derived.ProofKit
import Derived.OpenShut
import Derived.Test.YtjhnnfbnfgaheaaDoorBits
import Derived.Test.YtjhnnfbnfgaheaaDoorOnes
import Derived.Lib.LaidTab
import Derived.Test.YtjhnnfbnfgaheaaDoorTie
import Derived.Test.YtjhnnfbnfgaheaaDoorCards
import Derived.LaidMore
import Derived.Lay
import Derived.SevenTiedAt
import Derived.Stop.Joined
import Derived.ShutString
import Derived.ChangeOld
import Derived.Below
namespace Go.Proofs.YtjhnnfbnfgaheaaDoor.fnSingleFlagRoundTrip
open Go.ChangeShapes Go.WideShapes Go.ChangeAt Go.RowKit
open Go.ChangeMaps (open_string shut_string)
set_option linter.unusedVariables false
open Go.Proofs.YtjhnnfbnfgaheaaDoor.bitsOf

theorem own : ownKnob Tryd.prog.godebug = none := by kernel_rfl
theorem laidOut : laidOutB Tryd.prog = true := by kernel_rfl

def tab32 : List Int := [0, 1, 28, 2, 29, 14, 24, 3, 30, 22, 20, 15, 25, 17, 4, 8, 31, 27, 13, 23, 21, 19, 16, 7, 26, 12, 18, 6, 11, 5, 10, 9]
theorem tab_of {W : World} (h : laidMet Tryd.prog Rows.fnSingleFlagRoundTripRow.laid W) : Lib.TabIs Tryd.prog W "math/bits.deBruijn32tab" .u8 tab32 :=
  Lib.tabIs_of_head (rest := []) (g := 0) (t := 35) (e := 5) (n := 32) (by kernel_rfl) (by kernel_rfl) Tryd.underlying35 Tryd.underlying5 (by kernel_rfl) (by kernel_rfl) h
def ix (x : Int) : Int := bits .and .u32 x (-x % 4294967296) * 125613361 % 4294967296 / 134217728
theorem ix_tab : ∀ k : Fin 32, tab32.getD (ix ((2 ^ k.val : Nat) : Int)).toNat 0 = (k.val : Int) ∧ (ix ((2 ^ k.val : Nat) : Int)).toNat < 32 := by decide +kernel
theorem idx_any (x k : Nat) (w : World) (h0 : 0 < x) (h1 : x < 4294967296) (hk : k < 32) (hc : w.cell? ⟨0, (bits .and .u32 (x : Int) (-(x : Int) % 4294967296) * 125613361 % 4294967296 / 134217728).toNat, none⟩ = some (.int .u8 (k : Int))) :
    Calls Tryd.prog 10 #[.int .u32 x] w fun e w' => e = .returned (.int .i64 k) ∧ w = w' := by
  have t0 : ((x : Int) == 0) = false := by simp; omega
  go_enter Tryd.func10, Tryd.ntmps10
  go_wp2
  go_ret
  exact ⟨rfl, rfl⟩
theorem index_any (k : Nat) (w : World) (hk : k < 32) (ht : Lib.TabIs Tryd.prog w "math/bits.deBruijn32tab" .u8 tab32) :
    Calls Tryd.prog 4 #[.int .i64 ((2 ^ k : Nat) : Int)] w fun e w' => e = .returned (.int .i64 k) ∧ w = w' := by
  obtain ⟨x, hx⟩ : ∃ x : Nat, x = 2 ^ k := ⟨_, rfl⟩
  have hx1 : x < 4294967296 := by rw [hx]; exact Nat.lt_of_lt_of_le (Nat.pow_lt_pow_right (by omega) hk) (by decide)
  have hx0 : 0 < x := by rw [hx]; exact Nat.pow_pos (by omega)
  have hc : w.cell? ⟨0, (bits .and .u32 (x : Int) (-(x : Int) % 4294967296) * 125613361 % 4294967296 / 134217728).toNat, none⟩ = some (.int .u8 (k : Int)) := by
    obtain ⟨e1, e2⟩ := ix_tab ⟨k, hk⟩
    have h := ht.cell (g := 0) (by kernel_rfl) (ix ((2 ^ k : Nat) : Int)).toNat e2
    rw [e1] at h; rw [hx]; exact h
  have HC := Lib.hid hc
  rw [← hx]
  have hm : (x : Int) % 4294967296 = x := by omega
  clear hc hx ht
  go_enter Tryd.func4, Tryd.ntmps4
  go_wp2_with (first | (go_at_call 10; fail) | (go_at_call 7; go_in))
  refine (idx_any x k _ hx0 hx1 hk HC.out).mono ?_
  rintro e w' ⟨rfl, rfl⟩
  go_wp2
  go_ret
  exact ⟨rfl, rfl⟩
theorem one_cnt : ∀ k : Fin 32, cntUp (lo ((2 ^ k.val : Nat) : Int)) 32 = 1 := by decide +kernel
theorem one_upto : ∀ k : Fin 32, upto ((2 ^ k.val : Nat) : Int) 5 = if k.val < 5 then [((2 ^ k.val : Nat) : Int)] else [] := by decide +kernel
theorem shl_val : ∀ k : Fin 32, wrap64 ((2 : Int) ^ k.val) = ((2 ^ k.val : Nat) : Int) := by decide +kernel
def OnePost (V : Int) (w : World) (e : Ending) (w' : World) : Prop := ∃ g c, e = .returned (.slice (some ⟨g, 0, none⟩) 1 c) ∧ w'.cell? ⟨g, 0, none⟩ = some (.int .i64 V) ∧ Below w.heap.size w w'
def NonePost (w : World) (e : Ending) (w' : World) : Prop := ∃ a c, e = .returned (.slice a 0 c) ∧ Below w.heap.size w w'
theorem one_list (V : Int) (h : upto V 5 = [V]) (w : World) : Calls Tryd.prog 6 #[.int .i64 V] w (OnePost V w) :=
  (list_any V w).mono fun e w' ⟨v, he, ho, hb⟩ => by
    rw [h] at ho
    rcases ho.2 with ⟨_, h0⟩ | ⟨g, cap, cur, hv, _⟩
    · simp at h0
    · subst hv
      exact ⟨g, cap, he, by rw [World.ownsRow.cellAt ho 0 (by simp)]; rfl, hb⟩
theorem none_list (V : Int) (h : upto V 5 = []) (w : World) : Calls Tryd.prog 6 #[.int .i64 V] w (NonePost w) :=
  (list_any V w).mono fun e w' ⟨v, he, ho, hb⟩ => by
    rw [h] at ho
    rcases ho.2 with ⟨hv, _⟩ | ⟨g, cap, cur, hv, _⟩
    · subst hv; exact ⟨_, _, he, hb⟩
    · subst hv; exact ⟨_, _, he, hb⟩
set_option maxHeartbeats 4000000 in
theorem walk (a0 : Int) (w : World) (w0 : (Lit.int .i64 a0).wf = true) (hlaid : Lib.TabIs Tryd.prog w "math/bits.deBruijn32tab" .u8 tab32) :
    Calls Tryd.prog 3 #[.int .i64 a0] w fun e w' => e = .returned (.bool true) ∧ Below w.heap.size w w' := by
  clear w0
  by_cases k1 : a0 < 0
  · go_enter Tryd.func3, Tryd.ntmps3
    go_wp2_with fail
    go_ret
    exact ⟨rfl, Below.refl _ _⟩
  by_cases k2 : 31 < a0
  · go_enter Tryd.func3, Tryd.ntmps3
    go_wp2_with fail
    go_ret
    exact ⟨rfl, Below.refl _ _⟩
  obtain ⟨k, rfl⟩ : ∃ k : Nat, a0 = (k : Int) := ⟨a0.toNat, by omega⟩
  have d1 : decide ((k : Int) < 0) = false := by simp
  have d2 : decide ((31 : Int) < (k : Int)) = false := by simp; omega
  have hk : k < 32 := by omega
  have hV := shl_val ⟨k, hk⟩
  have hU := one_upto ⟨k, hk⟩
  have hC := one_cnt ⟨k, hk⟩
  simp only at hV hU hC
  have K1 := Lib.hid (index_any k w hk hlaid)
  have K2 := Lib.hid (fun w => (count_any ((2 ^ k : Nat) : Int) w))
  rw [← hV] at K1 K2 hU hC
  generalize hVV : wrap64 ((2 : Int) ^ k) = V at K1 K2 hU hC
  have HVV := Lib.hid hVV
  have HU := Lib.hid hU
  have HC := Lib.hid hC
  clear hV hU hC hVV hlaid
  go_enter Tryd.func3, Tryd.ntmps3
  go_wp2_with fail
  rw [HVV.out]
  refine K1.out.mono ?_
  rintro e w' ⟨rfl, rfl⟩
  go_wp2_with fail
  refine ((K2.out _).mono ?_ : Calls _ _ _ _ _)
  rintro e w1 ⟨he, hb1⟩
  rw [HC.out] at he
  subst he
  go_wp2_with fail
  by_cases h5 : k < 5
  · have t5 : decide ((k : Int) < 5) = true := by simp; omega
    refine (one_list V (by rw [HU.out, if_pos h5]) _).mono ?_
    rintro e w2 ⟨g, c, rfl, hc, hb2⟩
    go_wp2_with fail
    go_ret
    exact ⟨rfl, hb1.trans (hb2.mono hb1.size)⟩
  · have t5 : decide ((k : Int) < 5) = false := by simp; omega
    refine (none_list V (by rw [HU.out, if_neg h5]) _).mono ?_
    rintro e w2 ⟨a, c, rfl, hb2⟩
    go_wp2_with fail
    go_ret
    exact ⟨rfl, hb1.trans (hb2.mono hb1.size)⟩

/-! ### The row's step (frame) -/
set_option maxRecDepth 100000 in
theorem lifted (os : Os) (started : os.Started) (H : Type) (enc : TypeId × Value → H) :
    ReturnsInHanded {} Tryd.checked os 3 .any (fun w args => (Rows.fnSingleFlagRoundTripSpec.pre enc Tryd.prog Tryd.f3 Rows.fnSingleFlagRoundTripRow.domain false w args ∧ laidMetH Tryd.prog Rows.fnSingleFlagRoundTripRow.laid w) ∧ sizedMet enc Tryd.prog Tryd.f3 (OpenSpec.ofChange Rows.fnSingleFlagRoundTripSpec) false w args) (Rows.fnSingleFlagRoundTripSpec.post enc Tryd.prog Tryd.f3 false true false false) := by
  refine returnsInHanded_of_change_and (C := Tryd.checked) (X := fun w _ => laidMetH Tryd.prog Rows.fnSingleFlagRoundTripRow.laid w) (fun _ _ _ hh h => h.of_heap hh) own started (by kernel_rfl) Tryd.func3
    (ChangeSpec.witness_shaped (enc := enc) (C := Tryd.checked) (os := os) (X := fun w _ => laidMetH Tryd.prog Rows.fnSingleFlagRoundTripRow.laid w) false (World.laidAll Tryd.prog os Rows.fnSingleFlagRoundTripRow.laid) #[.int .i64 0] 8 (World.laidAll_os _ _ _)
      (World.shaped_of_ZipB (by kernel_rfl) (by kernel_rfl)) (by kernel_rfl) (by kernel_rfl) (by kernel_rfl)
      (by rw [MakeChecks.laidMetH_plain _ _ _ (by kernel_rfl)]; exact laidMet_laidAll _ (by kernel_rfl) (by kernel_rfl))) ?_
  intro W base args ds gs before hval0 hW hcnd _ hL _
  have hval : ∀ (j : Nat) t v, Tryd.f3.params[j]? = some t → args[j]? = some v → Value.okWide Tryd.prog W .any base t v := hval0
  have hW' := hW
  obtain ⟨p, q, hA0, hV, rfl, hfz, hnd⟩ := hW
  have hA : DataW.TrodAll enc Tryd.prog W 0 (fun _ => true) true Tryd.f3.params.toList args.toList ds p := hA0
  rw [Tryd.params3] at hA hval
  obtain ⟨v0, vs0, d0, ds0, p0, q0, hargs, rfl, rfl, h0, r0⟩ := trodAll_cons hA
  obtain ⟨rfl, rfl, rfl⟩ := trodAll_nil r0
  obtain rfl : args = #[v0] := by cases args; simp_all
  obtain ⟨rfl, rfl⟩ := trodVars_none hV
  obtain ⟨a0, rfl, rfl, rfl, w0⟩ := open_int Tryd.underlying3 (hval 0 3 v0 rfl rfl) h0
  clear hA0 hval0
  refine (walk a0 W w0 (tab_of (by rw [MakeChecks.laidMetH_plain _ _ _ (by kernel_rfl)] at hL; exact hL))).mono fun e W' ⟨he, bel⟩ => ?_
  subst he
  exact ⟨_, rfl, _, _, _, [], _, [], hW', trodAll_mk1 (shut_bool Tryd.underlying4 _), (trodAll_cons_mk (shut_int Tryd.underlying3 w0) trodAll_mk0), rfl, bel.frame _, fun h => by cases h⟩

theorem over : Rows.fnSingleFlagRoundTripRow.holds Tryd.pinned (OpenSpec.ofChange Rows.fnSingleFlagRoundTripSpec) :=
  OpenClaim.holds_of_wide 3 Tryd.f3 rfl rfl rfl rfl rfl rfl rfl ⟨rfl, rfl, rfl, rfl, rfl⟩ rfl rfl rfl rfl rfl (by kernel_rfl) Tryd.func3 (by kernel_rfl)
    (of_decide_eq_true (by kernel_rfl)) (by unfold Func.isWrapper; first | (rw [if_pos (by decide +kernel)]; kernel_rfl) | (rw [if_neg (by decide +kernel)]; exact ⟨rfl, rfl⟩))
    (fun os started H enc _ => lifted os started H enc)

/-- The statement. -/
theorem proved : Rows.FnSingleFlagRoundTripCardSaid :=
  Claim7.holds_tied_plain_at .later [] [.data] true (true, "b22127cc0d07edad890897c692a1f92646b0681a69476af1ada450d5202b4067") false
    over (fun _ h => by cases h) (by kernel_rfl) (fun _ h => by cases h) fnSingleFlagRoundTrip_row_tie rfl ⟨rfl, rfl⟩ (by kernel_rfl) rfl
    (fun f fn hf hfn => by
      obtain rfl : f = 3 := Option.some.inj ((show Tryd.prog.funcNamed "mvdan.cc/sh/v3/n010_88.FnSingleFlagRoundTrip" = some 3 by kernel_rfl).symm.trans hf) |>.symm
      obtain rfl : fn = Tryd.f3 := (Option.some.inj (Tryd.func3.symm.trans hfn)).symm
      exact ⟨by kernel_rfl, fun j t ht => by
        rw [Tryd.params3] at ht
        have hm : t ∈ [3] := by simpa using Array.mem_of_getElem? ht
        have hall : ([3].all fun u => !Tryd.prog.wantsStandIn u) = true := by kernel_rfl
        exact (show Tryd.prog.wantsStandIn t = false by simpa using List.all_eq_true.1 hall t hm)⟩)
    (by kernel_rfl)
#print axioms proved
end Go.Proofs.YtjhnnfbnfgaheaaDoor.fnSingleFlagRoundTrip
