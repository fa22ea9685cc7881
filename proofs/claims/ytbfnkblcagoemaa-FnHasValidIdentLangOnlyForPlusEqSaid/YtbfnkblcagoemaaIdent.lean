/-
  What hasValidIdent returns on a state made by ZZNewState. Conditions: the text is at most 1 MiB and '=' lies inside it.
-/
import Derived.Test.YtbfnkblcagoemaaNames
import Derived.Test.YtbfnkblcagoemaaPos
import Derived.Outline
import Derived.Lib.Strings
namespace Go.Proofs.Ytbfnkblcagoemaa.ident
open Go.ChangeShapes Go.WideShapes Go.ChangeAt Go.RowKit Go.Proofs.Ytbfnkblcagoemaa.own Go.Proofs.Ytbfnkblcagoemaa.names Go.Proofs.Ytbfnkblcagoemaa.posn
/-! ### a new state -/
def sParts (tok : Int) (s : ByteArray) (eq r lang : Int) : List (Nat × Value) := [(10, .int .u32 tok), (11, .string s), (17, .int .i64 eq), (3, .int .i32 r), (19, .int .i64 lang)]
noncomputable def sCells (tok : Int) (s : ByteArray) (eq r lang : Int) : Array Value := ((((Z.setIfInBounds 10 (.int .u32 tok)).setIfInBounds 11 (.string s)).setIfInBounds 18 (.int .i64 eq)).setIfInBounds 3 (.int .i32 r)).setIfInBounds 20 (.int .i64 lang)
set_option maxRecDepth 100000 in
theorem builtS (tok : Int) (s : ByteArray) (eq r lang : Int) : Try.prog.built 81 (sParts tok s eq r lang) = some (sCells tok s eq r lang) := by kernel_rfl
set_option maxRecDepth 100000 in
theorem newState0 (tok : Int) (s : ByteArray) (eq r lang : Int) (w : World) (A : Array Value) (hb : Try.prog.built 81 (sParts tok s eq r lang) = some A) :
    Calls Try.prog 25 #[.int .u32 tok, .string s, .int .i64 eq, .int .i32 r, .int .i64 lang] w fun e w' => e = .returned (.pointer (some ⟨w.heap.size, 0, none⟩)) ∧ w.alloc (.cells A 81) = w' := by
  have HB := Lib.hid hb
  clear hb
  go_enter Try.func25, Try.ntmps25
  iterate 26 go_step
  refine wpList_build_at rfl 81 _ rfl (sParts tok s eq r lang) (by simp [go_sem, sParts]) A HB.out ?_
  go_wp2
  go_ret
  exact ⟨rfl, rfl⟩
/-- block b holds such a state -/
def St (b : Nat) (tok : Int) (s : ByteArray) (eq r lang : Int) (wr : World) : Prop :=
  wr.cell? ⟨b, 10, none⟩ = some (.int .u32 tok) ∧ wr.cell? ⟨b, 11, none⟩ = some (.string s) ∧ wr.cell? ⟨b, 18, none⟩ = some (.int .i64 eq) ∧
  wr.cell? ⟨b, 3, none⟩ = some (.int .i32 r) ∧ wr.cell? ⟨b, 20, none⟩ = some (.int .i64 lang)
theorem newState (tok : Int) (s : ByteArray) (eq r lang : Int) (w : World) : Calls Try.prog 25 #[.int .u32 tok, .string s, .int .i64 eq, .int .i32 r, .int .i64 lang] w fun e w' =>
    e = .returned (.pointer (some ⟨w.heap.size, 0, none⟩)) ∧ St w.heap.size tok s eq r lang w' ∧ Below w.heap.size w w' ∧ w.heap.size < w'.heap.size := by
  refine (newState0 tok s eq r lang w _ (builtS tok s eq r lang)).mono ?_
  rintro e w' ⟨rfl, rfl⟩
  refine ⟨rfl, ⟨?_, ?_, ?_, ?_, ?_⟩, (Below.refl _ _).alloc (Nat.le_refl _) _, by simp⟩
  all_goals rw [World.cell?_alloc_at _ _ _ _ rfl]; simp [sCells, Zsize]
/-! ### hasValidIdent -/
/-- the text ahead of '=' (and of '+', where that is let by) -/
def cutB (s : ByteArray) (n : Nat) (lb : Bool) : ByteArray := if ((s.data[n - 1]?.getD 0) == 43 && lb) = true then s.extract 0 (n - 1) else s.extract 0 n
def litB (tok : Int) : Bool := decide (tok = 3) || decide (tok = 4) || decide (tok = 5)
def restV (s : ByteArray) (r : Int) : Bool := nameB s.data.toList && decide (r = 91)
def identB (tok : Int) (s : ByteArray) (eq r : Int) (lb : Bool) : Bool :=
  litB tok && (if 0 < eq then nameB (cutB s eq.toNat lb).data.toList || decide (r = 91) else restV s r)
theorem vn_is (s : ByteArray) (w : World) (v : Bool) (hs : s.size ≤ 1099511627776) (hv : nameB s.data.toList = v) :
    Calls Try.prog 30 #[.string s] w fun e w' => e = .returned (.bool v) ∧ Below w.heap.size w w' := by
  rw [← hv]; exact validName_any s w hs
theorem isLit_any (tok : Int) (w : World) : Calls Try.prog 45 #[.int .u32 tok] w fun e w' => e = .returned (.bool (litB tok)) ∧ w = w' := by
  by_cases h3 : tok = 3
  · subst h3; go_enter Try.func45, Try.ntmps45; go_wp2; go_ret; exact ⟨rfl, rfl⟩
  by_cases h4 : tok = 4
  · subst h4; go_enter Try.func45, Try.ntmps45; go_wp2; go_ret; exact ⟨rfl, rfl⟩
  by_cases h5 : tok = 5
  · subst h5; go_enter Try.func45, Try.ntmps45; go_wp2; go_ret; exact ⟨rfl, rfl⟩
  rw [show litB tok = false by simp [litB, h3, h4, h5]]
  go_enter Try.func45, Try.ntmps45; go_wp2; go_ret; exact ⟨by simp [h3, h4, h5], rfl⟩
def InLang (lang : Int) (lb : Bool) : Prop := ∀ w, Calls Try.prog 46 #[.int .i64 lang, .int .i64 29] w fun e w' => e = .returned (.bool lb) ∧ w = w'
theorem in1 : InLang 1 true := by intro w; go_enter Try.func46, Try.ntmps46; go_wp2; go_ret; exact ⟨rfl, rfl⟩
theorem in2 : InLang 2 false := by intro w; go_enter Try.func46, Try.ntmps46; go_wp2; go_ret; exact ⟨rfl, rfl⟩
theorem in4 : InLang 4 true := by intro w; go_enter Try.func46, Try.ntmps46; go_wp2; go_ret; exact ⟨rfl, rfl⟩
theorem in8 : InLang 8 true := by intro w; go_enter Try.func46, Try.ntmps46; go_wp2; go_ret; exact ⟨rfl, rfl⟩
theorem in16 : InLang 16 true := by intro w; go_enter Try.func46, Try.ntmps46; go_wp2; go_ret; exact ⟨rfl, rfl⟩
theorem hv_notlit (b : Nat) (tok : Int) (s : ByteArray) (eq r lang : Int) (w : World) (h : St b tok s eq r lang w) (ht : litB tok = false) :
    Calls Try.prog 40 #[.pointer (some ⟨b, 0, none⟩)] w fun e w' => e = .returned (.bool false) ∧ Below w.heap.size w w' := by
  obtain ⟨c10, c11, c18, c3, c20⟩ := h
  go_enter Try.func40, Try.ntmps40
  go_wp2_with (go_at_call 45; refine (isLit_any _ _).mono ?_; rw [ht]; rintro e w' ⟨rfl, rfl⟩)
  go_ret
  exact ⟨rfl, Below.refl _ _⟩
theorem hv_tail (b : Nat) (tok : Int) (s : ByteArray) (r lang : Int) (w : World) (h : St b tok s 0 r lang w) (ht : litB tok = true) (hs : s.size ≤ 1048576) :
    Calls Try.prog 40 #[.pointer (some ⟨b, 0, none⟩)] w fun e w' => e = .returned (.bool (restV s r)) ∧ Below w.heap.size w w' := by
  obtain ⟨c10, c11, c18, c3, c20⟩ := h
  cases hn : nameB s.data.toList
  · have HN := Lib.hid hn
    rw [show restV s r = false by simp [restV, hn]]
    clear hn
    go_enter Try.func40, Try.ntmps40
    go_wp2_with (first | (go_at_call 45; refine (isLit_any _ _).mono ?_; rw [ht]; rintro e w' ⟨rfl, rfl⟩) | fail)
    refine (vn_is _ _ false (by omega) HN.out).mono ?_
    rintro e w1 ⟨rfl, g1⟩
    have B1 := Lib.hid g1
    clear g1
    go_wp2_with fail
    go_ret
    exact ⟨rfl, B1.out⟩
  · have HN := Lib.hid hn
    rw [show restV s r = decide (r = 91) by simp [restV, hn]]
    clear hn
    go_enter Try.func40, Try.ntmps40
    go_wp2_with (first | (go_at_call 45; refine (isLit_any _ _).mono ?_; rw [ht]; rintro e w' ⟨rfl, rfl⟩) | fail)
    have s1 : b < w.heap.size := cell_lt c3
    refine (vn_is _ _ true (by omega) HN.out).mono ?_
    rintro e w1 ⟨rfl, g1⟩
    have d3 : w1.cell? ⟨b, 3, none⟩ = some (.int .i32 r) := cb g1 s1 c3
    have B1 := Lib.hid g1
    clear g1 c3
    go_wp2_with fail
    go_ret
    exact ⟨by by_cases h : r = 91 <;> simp [h], B1.out⟩
theorem get_at (s : ByteArray) (m : Nat) (h : m < s.size) : s.data[m + 1 - 1]?.getD 0 = s[m] := by
  have : m < s.data.size := h
  rw [Nat.add_sub_cancel, Array.getElem?_eq_getElem this]; rfl
theorem cut_f (s : ByteArray) (m : Nat) : cutB s (m + 1) false = s.extract 0 (m + 1) := by simp [cutB]
theorem cut_t (s : ByteArray) (m : Nat) (h : m < s.size) (hc : ((s[m].toNat : Int) == 43) = true) : cutB s (m + 1) true = s.extract 0 m := by
  have : s[m] = 43 := by
    have h2 : (s[m].toNat : Int) = 43 := by simpa using hc
    exact UInt8.toNat_inj.mp (by have : (43 : UInt8).toNat = 43 := rfl; omega)
  unfold cutB; rw [get_at s m h, this]; simp
theorem cut_n (s : ByteArray) (m : Nat) (lb : Bool) (h : m < s.size) (hc : ((s[m].toNat : Int) == 43) = false) : cutB s (m + 1) lb = s.extract 0 (m + 1) := by
  have : ¬ s[m] = 43 := by
    intro h2; rw [h2] at hc; exact absurd hc (by decide)
  unfold cutB; rw [get_at s m h]; simp [this]
theorem hv_first (b : Nat) (tok : Int) (s : ByteArray) (m : Nat) (r lang : Int) (lb : Bool) (w : World) (h : St b tok s ((m + 1 : Nat) : Int) r lang w) (ht : litB tok = true) (hs : s.size ≤ 1048576) (hm : m + 1 < s.size) (hl : InLang lang lb)
    (hn : nameB (cutB s (m + 1) lb).data.toList = true) :
    Calls Try.prog 40 #[.pointer (some ⟨b, 0, none⟩)] w fun e w' => e = .returned (.bool true) ∧ Below w.heap.size w w' := by
  obtain ⟨c10, c11, c18, c3, c20⟩ := h
  have HL := Lib.hid hl
  have HN := Lib.hid hn
  clear hl hn
  by_cases hc : ((s[m].toNat : Int) == 43) = true
  · cases lb
    · have HX := Lib.hid (cut_f s m)
      go_enter Try.func40, Try.ntmps40
      go_wp2_with (first | (go_at_call 45; refine (isLit_any _ _).mono ?_; rw [ht]; rintro e w' ⟨rfl, rfl⟩) | (go_at_call 46; refine (HL.out _).mono ?_; rintro e w' ⟨rfl, rfl⟩) | fail)
      refine (vn_is _ _ true (by rw [ByteArray.size_extract]; omega) (by rw [← HX.out]; exact HN.out)).mono ?_
      rintro e w1 ⟨rfl, g1⟩
      have B1 := Lib.hid g1
      clear g1
      go_wp2_with fail
      go_ret
      exact ⟨rfl, B1.out⟩
    · have HX := Lib.hid (cut_t s m (by omega) hc)
      go_enter Try.func40, Try.ntmps40
      go_wp2_with (first | (go_at_call 45; refine (isLit_any _ _).mono ?_; rw [ht]; rintro e w' ⟨rfl, rfl⟩) | (go_at_call 46; refine (HL.out _).mono ?_; rintro e w' ⟨rfl, rfl⟩) | fail)
      refine (vn_is _ _ true (by rw [ByteArray.size_extract]; omega) (by rw [← HX.out]; exact HN.out)).mono ?_
      rintro e w1 ⟨rfl, g1⟩
      have B1 := Lib.hid g1
      clear g1
      go_wp2_with fail
      go_ret
      exact ⟨rfl, B1.out⟩
  · have hc' : ((s[m].toNat : Int) == 43) = false := by simpa using hc
    clear hc
    have HX := Lib.hid (cut_n s m lb (by omega) hc')
    go_enter Try.func40, Try.ntmps40
    go_wp2_with (first | (go_at_call 45; refine (isLit_any _ _).mono ?_; rw [ht]; rintro e w' ⟨rfl, rfl⟩) | (go_at_call 46; refine (HL.out _).mono ?_; rintro e w' ⟨rfl, rfl⟩) | fail)
    refine (vn_is _ _ true (by rw [ByteArray.size_extract]; omega) (by rw [← HX.out]; exact HN.out)).mono ?_
    rintro e w1 ⟨rfl, g1⟩
    have B1 := Lib.hid g1
    clear g1
    go_wp2_with fail
    go_ret
    exact ⟨rfl, B1.out⟩
theorem hv_second (b : Nat) (tok : Int) (s : ByteArray) (m : Nat) (r lang : Int) (lb : Bool) (w : World) (h : St b tok s ((m + 1 : Nat) : Int) r lang w) (ht : litB tok = true) (hs : s.size ≤ 1048576) (hm : m + 1 < s.size) (hl : InLang lang lb)
    (hn : nameB (cutB s (m + 1) lb).data.toList = false) :
    Calls Try.prog 40 #[.pointer (some ⟨b, 0, none⟩)] w fun e w' => e = .returned (.bool (decide (r = 91))) ∧ Below w.heap.size w w' := by
  obtain ⟨c10, c11, c18, c3, c20⟩ := h
  have HL := Lib.hid hl
  have HN := Lib.hid hn
  have s1 : b < w.heap.size := cell_lt c3
  clear hl hn
  by_cases hc : ((s[m].toNat : Int) == 43) = true
  · cases lb
    · have HX := Lib.hid (cut_f s m)
      go_enter Try.func40, Try.ntmps40
      go_wp2_with (first | (go_at_call 45; refine (isLit_any _ _).mono ?_; rw [ht]; rintro e w' ⟨rfl, rfl⟩) | (go_at_call 46; refine (HL.out _).mono ?_; rintro e w' ⟨rfl, rfl⟩) | fail)
      refine (vn_is _ _ false (by rw [ByteArray.size_extract]; omega) (by rw [← HX.out]; exact HN.out)).mono ?_
      rintro e w1 ⟨rfl, g1⟩
      have d11 : w1.cell? ⟨b, 11, none⟩ = some (.string s) := cb g1 s1 c11
      have d3 : w1.cell? ⟨b, 3, none⟩ = some (.int .i32 r) := cb g1 s1 c3
      have s2 : b < w1.heap.size := cell_lt d3
      have B1 := Lib.hid g1
      clear g1 c10 c11 c18 c3 c20
      go_wp2_with fail
      go_ret
      exact ⟨by by_cases h : r = 91 <;> simp [h], B1.out⟩
    · have HX := Lib.hid (cut_t s m (by omega) hc)
      go_enter Try.func40, Try.ntmps40
      go_wp2_with (first | (go_at_call 45; refine (isLit_any _ _).mono ?_; rw [ht]; rintro e w' ⟨rfl, rfl⟩) | (go_at_call 46; refine (HL.out _).mono ?_; rintro e w' ⟨rfl, rfl⟩) | fail)
      refine (vn_is _ _ false (by rw [ByteArray.size_extract]; omega) (by rw [← HX.out]; exact HN.out)).mono ?_
      rintro e w1 ⟨rfl, g1⟩
      have d11 : w1.cell? ⟨b, 11, none⟩ = some (.string s) := cb g1 s1 c11
      have d3 : w1.cell? ⟨b, 3, none⟩ = some (.int .i32 r) := cb g1 s1 c3
      have s2 : b < w1.heap.size := cell_lt d3
      have B1 := Lib.hid g1
      clear g1 c10 c11 c18 c3 c20
      go_wp2_with fail
      go_ret
      exact ⟨by by_cases h : r = 91 <;> simp [h], B1.out⟩
  · have hc' : ((s[m].toNat : Int) == 43) = false := by simpa using hc
    clear hc
    have HX := Lib.hid (cut_n s m lb (by omega) hc')
    go_enter Try.func40, Try.ntmps40
    go_wp2_with (first | (go_at_call 45; refine (isLit_any _ _).mono ?_; rw [ht]; rintro e w' ⟨rfl, rfl⟩) | (go_at_call 46; refine (HL.out _).mono ?_; rintro e w' ⟨rfl, rfl⟩) | fail)
    refine (vn_is _ _ false (by rw [ByteArray.size_extract]; omega) (by rw [← HX.out]; exact HN.out)).mono ?_
    rintro e w1 ⟨rfl, g1⟩
    have d11 : w1.cell? ⟨b, 11, none⟩ = some (.string s) := cb g1 s1 c11
    have d3 : w1.cell? ⟨b, 3, none⟩ = some (.int .i32 r) := cb g1 s1 c3
    have s2 : b < w1.heap.size := cell_lt d3
    have B1 := Lib.hid g1
    clear g1 c10 c11 c18 c3 c20
    go_wp2_with fail
    go_ret
    exact ⟨by by_cases h : r = 91 <;> simp [h], B1.out⟩
theorem id_zero (tok : Int) (s : ByteArray) (r : Int) (lb : Bool) (ht : litB tok = true) : identB tok s ((0 : Nat) : Int) r lb = restV s r := by
  simp [identB, ht]
theorem id_succ (tok : Int) (s : ByteArray) (m : Nat) (r : Int) (lb : Bool) (ht : litB tok = true) : identB tok s ((m + 1 : Nat) : Int) r lb = (nameB (cutB s (m + 1) lb).data.toList || decide (r = 91)) := by
  unfold identB; rw [if_pos (by omega), ht, Int.toNat_natCast]; simp
theorem hvi (b : Nat) (tok : Int) (s : ByteArray) (n : Nat) (r lang : Int) (lb : Bool) (w : World) (h : St b tok s (n : Int) r lang w) (hs : s.size ≤ 1048576) (hm : 0 < n → n < s.size) (hl : InLang lang lb) (v : Bool) (hv : identB tok s n r lb = v) :
    Calls Try.prog 40 #[.pointer (some ⟨b, 0, none⟩)] w fun e w' => e = .returned (.bool v) ∧ Below w.heap.size w w' := by
  subst hv
  cases ht : litB tok
  · rw [show identB tok s n r lb = false by simp [identB, ht]]
    exact hv_notlit b tok s n r lang w h ht
  · cases n with
    | zero => rw [id_zero _ _ _ _ ht]; exact hv_tail b tok s r lang w h ht hs
    | succ m =>
      rw [id_succ _ _ _ _ _ ht]
      cases hn : nameB (cutB s (m + 1) lb).data.toList
      · rw [Bool.false_or]; exact hv_second b tok s m r lang lb w h ht hs (hm (by omega)) hl hn
      · rw [Bool.true_or]; exact hv_first b tok s m r lang lb w h ht hs (hm (by omega)) hl hn
theorem zhvi (b : Nat) (tok : Int) (s : ByteArray) (n : Nat) (r lang : Int) (lb : Bool) (w : World) (h : St b tok s (n : Int) r lang w) (hs : s.size ≤ 1048576) (hm : 0 < n → n < s.size) (hl : InLang lang lb) (v : Bool) (hv : identB tok s n r lb = v) :
    Calls Try.prog 24 #[.pointer (some ⟨b, 0, none⟩)] w fun e w' => e = .returned (.bool v) ∧ Below w.heap.size w w' := by
  have H := Lib.hid (hvi b tok s n r lang lb w h hs hm hl v hv)
  clear h hm hl hv
  go_enter Try.func24, Try.ntmps24
  go_wp2_with fail
  refine H.out.mono ?_
  rintro e w1 ⟨rfl, g1⟩
  have B1 := Lib.hid g1
  clear g1
  go_wp2_with fail
  go_ret
  exact ⟨rfl, B1.out⟩
/-! ### the law -/
theorem no_plus (s : ByteArray) (m : Nat) (h : m < s.size) (hc : ((s[m].toNat : Int) == 43) = true) : nameB (cutB s (m + 1) false).data.toList = false := by
  have e : s[m] = 43 := by
    have h2 : (s[m].toNat : Int) = 43 := by simpa using hc
    exact UInt8.toNat_inj.mp (by have : (43 : UInt8).toNat = 43 := rfl; omega)
  have hz : m < (s.extract 0 (m + 1)).size := by rw [ByteArray.size_extract]; omega
  have hg : (s.extract 0 (m + 1))[m] = 43 := by rw [ByteArray.getElem_extract]; simpa using e
  rw [cut_f]
  refine (name_false (pos := m) hz ?_).symm
  rw [hg]; split <;> decide
/-- what the law asks of the two answers -/
theorem law_eq (tok : Int) (s : ByteArray) (n : Nat) (r : Int) (hm : 0 < n → n < s.size) (hp : ∀ m, n = m + 1 → ∀ h : m < s.size, ((s[m].toNat : Int) == 43) = false) : identB tok s n r false = identB tok s n r true := by
  cases ht : litB tok
  · simp [identB, ht]
  · cases n with
    | zero => rw [id_zero _ _ _ _ ht, id_zero _ _ _ _ ht]
    | succ m =>
      have := hm (by omega)
      have h2 : m < s.size := by omega
      rw [id_succ _ _ _ _ _ ht, id_succ _ _ _ _ _ ht, cut_n s m _ h2 (hp m rfl h2), cut_n s m _ h2 (hp m rfl h2)]
theorem law_plus (tok : Int) (s : ByteArray) (m : Nat) (r : Int) (h : m < s.size) (hc : ((s[m].toNat : Int) == 43) = true) (hP : identB tok s ((m + 1 : Nat) : Int) r false = true) : identB tok s ((m + 1 : Nat) : Int) r true = true := by
  cases ht : litB tok
  · simp [identB, ht] at hP
  · rw [id_succ _ _ _ _ _ ht, no_plus s m h hc, Bool.false_or] at hP
    rw [id_succ _ _ _ _ _ ht, hP, Bool.or_true]
end Go.Proofs.Ytbfnkblcagoemaa.ident
