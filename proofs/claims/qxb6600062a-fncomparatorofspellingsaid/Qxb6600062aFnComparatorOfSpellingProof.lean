/-
  'Rows.FnComparatorOfSpellingSaid' proved: the walk filled into the seat's own shell.
-/
import Derived.Test.Qxb6600062aRows
import Derived.Test.Qxb6600062aCmp
import Derived.Test.Qxb6600062aHead
import Derived.WalkKit
import Derived.ProofKit
import Derived.OpenShut
import Derived.ShutString
namespace Go.Proofs.Qxb6600062a.fnComparatorOfSpelling
open Go.ChangeShapes Go.WideShapes Go.ChangeAt Go.RowKit
open Go.ChangeMaps (open_string shut_string)
set_option linter.unusedVariables false      -- a walk need not use every 'w<i>' (that an integer argument fits its kind)

theorem own : ownKnob Try.prog.godebug = none := by kernel_rfl

/-! ### STEP 1: THE WALK -/
theorem bytes19 (s : ByteArray) (k : Int) (hs : s.size ≤ maxLen) (w : World) :
    Calls Try.prog 19 #[.string s, .int .u8 k] w fun e w' => e = .returned (.bool (decide (s.size ≤ 1048576))) ∧ w' = w := by
  unfold maxLen at hs
  by_cases h : s.size ≤ 1048576
  all_goals
    go_enter Try.func19, Try.ntmps19
    go_wp2
    go_ret
    exact ⟨by simp [h], rfl⟩

set_option maxRecDepth 100000 in
set_option maxHeartbeats 400000 in
/-- The text is no operator. -/
theorem walk_no (a0 : ByteArray) (a1 : Int) (w0 : a0.size ≤ 2 ^ 63 - 1) (hb : a0.size ≤ 4096) (hd : decide (a0.size ≤ 1048576) = true) (hb3 : decide ((4096 : Int) < (a0.size : Int)) = false) (ho : cmpOk a0.toList = false) (w : World) :
    Calls Try.prog 5 #[.string a0, .int .u8 a1] w fun e w' => e = .returned (.bool true) ∧ Grown w w' := by
  obtain ⟨c1, c2, c3⟩ := cmp_no _ ho
  have C3 : Hid (∀ x, (spellB x).toList ≠ [] → ((spellB x).toList == a0.toList) = false) := c3
  clear c3
  cases hk : ((spellB a1).toList == [])
  · obtain ⟨b1, b2⟩ := spell_back a1 (by simpa using hk)
    go_enter Try.func5, Try.ntmps5
    go_wp2_with (first | (go_at_call 19; refine (bytes19 _ _ w0 _).mono ?_; rintro e w' ⟨rfl, rfl⟩) | (go_at_call 20; refine (spell_any _ _).mono ?_; rintro e w' ⟨rfl, rfl⟩) | (go_at_call 13; refine (zzComparatorOf_any _ _).mono ?_; rintro e w' ⟨rfl, rfl⟩))
    go_loop [10] (fun x => ∃ n : Nat, n ≤ 256 ∧ x = .int .i64 n) (fun x => 256 - (intOf x).toNat)
    case atStart => exact ⟨0, by omega, rfl⟩
    case round =>
      obtain ⟨n, hn, rfl⟩ := hrel
      by_cases hlt : n < 256
      · cases hx : ((spellB n).toList == [])
        · have hx2 := C3.out n (by simpa using hx)
          go_wp2_with (go_at_call 20; refine (spell_any _ _).mono ?_; rintro e w' ⟨rfl, rfl⟩)
          exact ⟨⟨n + 1, by omega, by go_num⟩, by simp [intOf]; omega⟩
        · go_wp2_with (go_at_call 20; refine (spell_any _ _).mono ?_; rintro e w' ⟨rfl, rfl⟩)
          exact ⟨⟨n + 1, by omega, by go_num⟩, by simp [intOf]; omega⟩
      · go_wp2
        go_ret
        exact ⟨rfl, Grown.refl _⟩
  · go_enter Try.func5, Try.ntmps5
    go_wp2_with (first | (go_at_call 19; refine (bytes19 _ _ w0 _).mono ?_; rintro e w' ⟨rfl, rfl⟩) | (go_at_call 20; refine (spell_any _ _).mono ?_; rintro e w' ⟨rfl, rfl⟩) | (go_at_call 13; refine (zzComparatorOf_any _ _).mono ?_; rintro e w' ⟨rfl, rfl⟩))
    go_loop [10] (fun x => ∃ n : Nat, n ≤ 256 ∧ x = .int .i64 n) (fun x => 256 - (intOf x).toNat)
    case atStart => exact ⟨0, by omega, rfl⟩
    case round =>
      obtain ⟨n, hn, rfl⟩ := hrel
      by_cases hlt : n < 256
      · cases hx : ((spellB n).toList == [])
        · have hx2 := C3.out n (by simpa using hx)
          go_wp2_with (go_at_call 20; refine (spell_any _ _).mono ?_; rintro e w' ⟨rfl, rfl⟩)
          exact ⟨⟨n + 1, by omega, by go_num⟩, by simp [intOf]; omega⟩
        · go_wp2_with (go_at_call 20; refine (spell_any _ _).mono ?_; rintro e w' ⟨rfl, rfl⟩)
          exact ⟨⟨n + 1, by omega, by go_num⟩, by simp [intOf]; omega⟩
      · go_wp2
        go_ret
        exact ⟨rfl, Grown.refl _⟩

set_option maxRecDepth 100000 in
set_option maxHeartbeats 400000 in
/-- The text is an operator. -/
theorem walk_yes (a0 : ByteArray) (a1 : Int) (w0 : a0.size ≤ 2 ^ 63 - 1) (hb : a0.size ≤ 4096) (hd : decide (a0.size ≤ 1048576) = true) (hb3 : decide ((4096 : Int) < (a0.size : Int)) = false) (ho : cmpOk a0.toList = true) (w : World) :
    Calls Try.prog 5 #[.string a0, .int .u8 a1] w fun e w' => e = .returned (.bool true) ∧ Grown w w' := by
  rcases cmp_yes _ ho with c0 | ⟨c0, c2, c3⟩
  · have c1 : (a0.toList == (spellB (cmpC a0.toList)).toList) = true := beq_iff_eq.2 c0
    clear c0
    cases hk : ((spellB a1).toList == [])
    · obtain ⟨b1, b2⟩ := spell_back a1 (by simpa using hk)
      go_enter Try.func5, Try.ntmps5
      go_wp2_with (first | (go_at_call 19; refine (bytes19 _ _ w0 _).mono ?_; rintro e w' ⟨rfl, rfl⟩) | (go_at_call 20; refine (spell_any _ _).mono ?_; rintro e w' ⟨rfl, rfl⟩) | (go_at_call 13; refine (zzComparatorOf_any _ _).mono ?_; rintro e w' ⟨rfl, rfl⟩))
      go_ret
      exact ⟨rfl, Grown.refl _⟩
    · go_enter Try.func5, Try.ntmps5
      go_wp2_with (first | (go_at_call 19; refine (bytes19 _ _ w0 _).mono ?_; rintro e w' ⟨rfl, rfl⟩) | (go_at_call 20; refine (spell_any _ _).mono ?_; rintro e w' ⟨rfl, rfl⟩) | (go_at_call 13; refine (zzComparatorOf_any _ _).mono ?_; rintro e w' ⟨rfl, rfl⟩))
      go_ret
      exact ⟨rfl, Grown.refl _⟩
  · have c1 : (a0.toList == [60, 62]) = true := beq_iff_eq.2 c0
    rw [c2] at c3
    clear c0
    cases hk : ((spellB a1).toList == [])
    · obtain ⟨b1, b2⟩ := spell_back a1 (by simpa using hk)
      go_enter Try.func5, Try.ntmps5
      go_wp2_with (first | (go_at_call 19; refine (bytes19 _ _ w0 _).mono ?_; rintro e w' ⟨rfl, rfl⟩) | (go_at_call 20; refine (spell_any _ _).mono ?_; rintro e w' ⟨rfl, rfl⟩) | (go_at_call 13; refine (zzComparatorOf_any _ _).mono ?_; rintro e w' ⟨rfl, rfl⟩))
      go_ret
      exact ⟨rfl, Grown.refl _⟩
    · go_enter Try.func5, Try.ntmps5
      go_wp2_with (first | (go_at_call 19; refine (bytes19 _ _ w0 _).mono ?_; rintro e w' ⟨rfl, rfl⟩) | (go_at_call 20; refine (spell_any _ _).mono ?_; rintro e w' ⟨rfl, rfl⟩) | (go_at_call 13; refine (zzComparatorOf_any _ _).mono ?_; rintro e w' ⟨rfl, rfl⟩))
      go_ret
      exact ⟨rfl, Grown.refl _⟩

set_option maxRecDepth 100000 in
theorem walk (a0 : ByteArray) (a1 : Int) (w0 : a0.size ≤ maxLen) (w1 : (Lit.int .u8 a1).wf = true) (w : World) :
    Calls Try.prog 5 #[.string a0, .int .u8 a1] w fun e w' => e = .returned (.bool true) ∧ Grown w w' := by
  clear w1
  unfold maxLen at w0
  by_cases hb : a0.size ≤ 1048576
  rotate_left 1
  · have hd : decide (a0.size ≤ 1048576) = false := by simpa using hb
    go_enter Try.func5, Try.ntmps5
    go_wp2_with (go_at_call 19; refine (bytes19 _ _ w0 _).mono ?_; rintro e w' ⟨rfl, rfl⟩)
    go_ret
    exact ⟨rfl, Grown.refl _⟩
  by_cases hb2 : a0.size ≤ 4096
  rotate_left 1
  · have hd : decide (a0.size ≤ 1048576) = true := by simpa using hb
    go_enter Try.func5, Try.ntmps5
    go_wp2_with (go_at_call 19; refine (bytes19 _ _ w0 _).mono ?_; rintro e w' ⟨rfl, rfl⟩)
    go_ret
    exact ⟨rfl, Grown.refl _⟩
  have hd : decide (a0.size ≤ 1048576) = true := by simpa using hb
  have hb3 : decide ((4096 : Int) < (a0.size : Int)) = false := decide_eq_false (by omega)
  cases ho : cmpOk a0.toList
  · exact walk_no a0 a1 w0 hb2 hd hb3 ho w
  · exact walk_yes a0 a1 w0 hb2 hd hb3 ho w

/-! ### THE ROW's STEP: WRITTEN OUT: LEAVE IT -/
set_option maxRecDepth 100000 in
theorem lifted (os : Os) (started : os.Started) (H : Type) (enc : TypeId × Value → H) :
    ReturnsInHanded {} Try.checked os 5 .any (Rows.fnComparatorOfSpellingSpec.pre6 enc Try.prog Try.f5 Rows.fnComparatorOfSpellingRow.domain false) (Rows.fnComparatorOfSpellingSpec.post enc Try.prog Try.f5 false true false false) := by
  refine returnsInHanded_of_change (C := Try.checked) own started (by kernel_rfl) Try.func5
    (ChangeSpec.witness6 (enc := enc) (C := Try.checked) false ⟨#[], #[.string ByteArray.empty, .int .u8 0], []⟩ 8 (by kernel_rfl) (by kernel_rfl) (by kernel_rfl) (by kernel_rfl)) ?_
  intro W base args ds gs before hval0 hW hcnd _
  have hval : ∀ (j : Nat) t v, Try.f5.params[j]? = some t → args[j]? = some v → Value.okWide Try.prog W .any base t v := hval0
  have hW' := hW
  obtain ⟨p, q, hA0, hV, rfl, hfz, hnd⟩ := hW
  have hA : DataW.TrodAll enc Try.prog W 0 (fun _ => true) true Try.f5.params.toList args.toList ds p := hA0
  rw [Try.params5] at hA hval
  obtain ⟨v0, vs0, d0, ds0, p0, q0, hargs, rfl, rfl, h0, r0⟩ := trodAll_cons hA
  obtain ⟨v1, vs1, d1, ds1, p1, q1, rfl, rfl, rfl, h1, r1⟩ := trodAll_cons r0
  obtain ⟨rfl, rfl, rfl⟩ := trodAll_nil r1
  obtain rfl : args = #[v0, v1] := by cases args; simp_all
  obtain ⟨rfl, rfl⟩ := trodVars_none hV
  obtain ⟨a0, rfl, rfl, rfl, w0⟩ := open_string Try.underlying9 (hval 0 9 v0 rfl rfl) h0
  obtain ⟨a1, rfl, rfl, rfl, w1⟩ := open_int Try.underlying5 (hval 1 5 v1 rfl rfl) h1
  clear hA0 hval0
  simp only [List.append_nil] at hW'
  refine (walk a0 a1 w0 w1 W).mono fun e W' ⟨he, hg⟩ => ?_
  subst he
  exact ⟨_, rfl, post_of_same (pa := []) (pv := []) hW' (fun _ _ _ => (trodAll_cons_mk (shut_bool Try.underlying4 _) trodAll_mk0)) (fun sp _ => (trodAll_cons_mk (shut_string Try.underlying9 w0) (trodAll_cons_mk (shut_int Try.underlying5 w1) trodAll_mk0))) (fun _ _ => rfl) rfl
    (hg.frame _) hg.2.1 (ok_one (by kernel_rfl) rfl (okWide_bool_mk Try.underlying4 _))⟩

open Head in
theorem closed : joinedFacts Try.checked.prog 5 Try.f5 Rows.fnComparatorOfSpellingSpec Rows.fnComparatorOfSpellingRow = true :=
  and_mk (and_mk (and_mk (and_mk (and_mk (and_mk (and_mk (by kernel_rfl) mayEnter_eq) (lift_mk liftsFinal_eq rfl)) (make_mk make_eq rfl)) (by kernel_rfl)) (by kernel_rfl)) (by kernel_rfl)) (by kernel_rfl)

theorem over : Rows.fnComparatorOfSpellingRow.holds Try.pinned (OpenSpec.ofChange Rows.fnComparatorOfSpellingSpec) :=
  OpenClaim.holds_of_wide 5 Try.f5 rfl rfl rfl rfl rfl rfl rfl ⟨rfl, rfl, rfl, rfl, rfl⟩ rfl rfl rfl rfl rfl (by kernel_rfl) Try.func5 closed
    (of_decide_eq_true (by kernel_rfl)) (by unfold Func.isWrapper; first | (rw [if_pos (by decide +kernel)]; kernel_rfl) | (rw [if_neg (by decide +kernel)]; exact ⟨rfl, rfl⟩))
    (fun os started H enc _ => lifted os started H enc)

/-- ████ THE STATEMENT ████ -/
theorem proved : Rows.FnComparatorOfSpellingSaid :=
  over
#print axioms proved
end Go.Proofs.Qxb6600062a.fnComparatorOfSpelling
