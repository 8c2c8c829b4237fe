/-
  'Rows.FnComparatorOfMirrorSaid' proved: the walk, and the row's step with 'Below' (mirrorOf makes a marked row of its own).
-/
import Derived.Test.Qxb6600062aRows
import Derived.Test.Qxb6600062aMirror
import Derived.Test.Qxb6600062aHead
import Derived.ChangeOld
import Derived.Below
import Derived.WalkKit
import Derived.ProofKit
import Derived.OpenShut
import Derived.ShutString
namespace Go.Proofs.Qxb6600062a.fnComparatorOfMirror
open Go.ChangeShapes Go.WideShapes Go.ChangeAt Go.RowKit
open Go.ChangeMaps (open_string shut_string)
set_option linter.unusedVariables false      -- a walk need not use every 'w<i>' (that an integer argument fits its kind)

theorem own : ownKnob Try.prog.godebug = none := by kernel_rfl

/-! ### STEP 1: THE WALK -/
set_option maxRecDepth 100000 in
set_option maxHeartbeats 400000 in
theorem walk (a0 : ByteArray) (w0 : a0.size ≤ maxLen) (w : World) :
    Calls Try.prog 4 #[.string a0] w fun e w' => e = .returned (.bool true) ∧ Below w.heap.size w w' := by
  unfold maxLen at w0
  by_cases hb : a0.size ≤ 1048576
  rotate_left 1
  · have hd : decide (a0.size ≤ 1048576) = false := by simpa using hb
    go_enter Try.func4, Try.ntmps4
    go_wp2_with (go_at_call 16; refine (bytes16 _ w0 _).mono ?_; rintro e w' ⟨rfl, rfl⟩)
    go_ret
    exact ⟨rfl, Below.refl _ _⟩
  by_cases hb2 : a0.size ≤ 4096
  rotate_left 1
  · have hd : decide (a0.size ≤ 1048576) = true := by simpa using hb
    go_enter Try.func4, Try.ntmps4
    go_wp2_with (go_at_call 16; refine (bytes16 _ w0 _).mono ?_; rintro e w' ⟨rfl, rfl⟩)
    go_ret
    exact ⟨rfl, Below.refl _ _⟩
  have hd : decide (a0.size ≤ 1048576) = true := by simpa using hb
  have hb3 : decide ((4096 : Int) < (a0.size : Int)) = false := decide_eq_false (by omega)
  cases h1 : (a0.toList == [60, 62])
  · cases h2 : (a0.toList == [62, 60])
    · cases h3 : cmpOk a0.toList
      · obtain ⟨c1, c2, c3, c4⟩ := law_no _ h3 h2
        go_enter Try.func4, Try.ntmps4
        go_wp2_with (first
        | (go_at_call 16; refine (bytes16 _ w0 _).mono ?_; rintro e w' ⟨rfl, rfl⟩)
        | (go_at_call 13; refine (zzComparatorOf_any _ _).mono ?_; rintro e w' ⟨rfl, rfl⟩)
        | (go_at_call 17; refine (mirrorOf_any _ _ w0).mono ?_; rintro e w1 ⟨rfl, hb⟩)
        | (go_at_call 15; refine (maskOf_any _ _).mono ?_; rintro e w' ⟨rfl, rfl⟩))
        go_ret
        exact ⟨rfl, by assumption⟩
      · obtain ⟨a, b, c1, c2, c3, c4, c5, ha⟩ := law_yes _ h3 h1
        go_enter Try.func4, Try.ntmps4
        go_wp2_with (first
        | (go_at_call 16; refine (bytes16 _ w0 _).mono ?_; rintro e w' ⟨rfl, rfl⟩)
        | (go_at_call 13; refine (zzComparatorOf_any _ _).mono ?_; rintro e w' ⟨rfl, rfl⟩)
        | (go_at_call 17; refine (mirrorOf_any _ _ w0).mono ?_; rintro e w1 ⟨rfl, hb⟩)
        | (go_at_call 15; refine (maskOf_any _ _).mono ?_; rintro e w' ⟨rfl, rfl⟩)
        | (go_at_call 18; refine (converse_any _ ha _).mono ?_; rintro e w' ⟨rfl, rfl⟩))
        go_ret
        exact ⟨rfl, by assumption⟩
    · have e : a0.toList = [62, 60] := by simpa using h2
      have c1 : cmpOk a0.toList = false := by rw [e]; decide
      have c2 : cmpOk (a0.toList.map mirB) = true := by rw [e]; decide
      clear e
      go_enter Try.func4, Try.ntmps4
      go_wp2_with (first
        | (go_at_call 16; refine (bytes16 _ w0 _).mono ?_; rintro e w' ⟨rfl, rfl⟩)
        | (go_at_call 13; refine (zzComparatorOf_any _ _).mono ?_; rintro e w' ⟨rfl, rfl⟩)
        | (go_at_call 17; refine (mirrorOf_any _ _ w0).mono ?_; rintro e w1 ⟨rfl, hb⟩)
        | (go_at_call 15; refine (maskOf_any _ _).mono ?_; rintro e w' ⟨rfl, rfl⟩))
      go_ret
      exact ⟨rfl, by assumption⟩
  · have e : a0.toList = [60, 62] := by simpa using h1
    have c1 : cmpOk a0.toList = true := by rw [e]; decide
    have c2 : cmpOk (a0.toList.map mirB) = false := by rw [e]; decide
    clear e
    go_enter Try.func4, Try.ntmps4
    go_wp2_with (first
        | (go_at_call 16; refine (bytes16 _ w0 _).mono ?_; rintro e w' ⟨rfl, rfl⟩)
        | (go_at_call 13; refine (zzComparatorOf_any _ _).mono ?_; rintro e w' ⟨rfl, rfl⟩)
        | (go_at_call 17; refine (mirrorOf_any _ _ w0).mono ?_; rintro e w1 ⟨rfl, hb⟩)
        | (go_at_call 15; refine (maskOf_any _ _).mono ?_; rintro e w' ⟨rfl, rfl⟩))
    go_ret
    exact ⟨rfl, by assumption⟩

/-! ### THE ROW's STEP: WRITTEN OUT: LEAVE IT -/
set_option maxRecDepth 100000 in
theorem lifted (os : Os) (started : os.Started) (H : Type) (enc : TypeId × Value → H) :
    ReturnsInHanded {} Try.checked os 4 .any (Rows.fnComparatorOfMirrorSpec.pre6 enc Try.prog Try.f4 Rows.fnComparatorOfMirrorRow.domain false) (Rows.fnComparatorOfMirrorSpec.post enc Try.prog Try.f4 false true false false) := by
  refine returnsInHanded_of_change (C := Try.checked) own started (by kernel_rfl) Try.func4
    (ChangeSpec.witness6 (enc := enc) (C := Try.checked) false ⟨#[], #[.string ByteArray.empty], []⟩ 8 (by kernel_rfl) (by kernel_rfl) (by kernel_rfl) (by kernel_rfl)) ?_
  intro W base args ds gs before hval0 hW hcnd _
  have hval : ∀ (j : Nat) t v, Try.f4.params[j]? = some t → args[j]? = some v → Value.okWide Try.prog W .any base t v := hval0
  have hW' := hW
  obtain ⟨p, q, hA0, hV, rfl, hfz, hnd⟩ := hW
  have hA : DataW.TrodAll enc Try.prog W 0 (fun _ => true) true Try.f4.params.toList args.toList ds p := hA0
  rw [Try.params4] at hA hval
  obtain ⟨v0, vs0, d0, ds0, p0, q0, hargs, rfl, rfl, h0, r0⟩ := trodAll_cons hA
  obtain ⟨rfl, rfl, rfl⟩ := trodAll_nil r0
  obtain rfl : args = #[v0] := by cases args; simp_all
  obtain ⟨rfl, rfl⟩ := trodVars_none hV
  obtain ⟨a0, rfl, rfl, rfl, w0⟩ := open_string Try.underlying9 (hval 0 9 v0 rfl rfl) h0
  clear hA0 hval0
  refine (walk a0 w0 W).mono fun e W' ⟨he, bel⟩ => ?_
  subst he
  exact ⟨_, rfl, _, _, _, [], _, [], hW', trodAll_mk1 (shut_bool Try.underlying4 _), (trodAll_cons_mk (shut_string Try.underlying9 w0) trodAll_mk0), rfl, bel.frame _, fun h => by cases h⟩

open Head in
theorem closed : joinedFacts Try.checked.prog 4 Try.f4 Rows.fnComparatorOfMirrorSpec Rows.fnComparatorOfMirrorRow = true :=
  and_mk (and_mk (and_mk (and_mk (and_mk (and_mk (and_mk (by kernel_rfl) mayEnter_eq) (lift_mk liftsFinal_eq rfl)) (make_mk make_eq rfl)) (by kernel_rfl)) (by kernel_rfl)) (by kernel_rfl)) (by kernel_rfl)

theorem over : Rows.fnComparatorOfMirrorRow.holds Try.pinned (OpenSpec.ofChange Rows.fnComparatorOfMirrorSpec) :=
  OpenClaim.holds_of_wide 4 Try.f4 rfl rfl rfl rfl rfl rfl rfl ⟨rfl, rfl, rfl, rfl, rfl⟩ rfl rfl rfl rfl rfl (by kernel_rfl) Try.func4 closed
    (of_decide_eq_true (by kernel_rfl)) (by unfold Func.isWrapper; first | (rw [if_pos (by decide +kernel)]; kernel_rfl) | (rw [if_neg (by decide +kernel)]; exact ⟨rfl, rfl⟩))
    (fun os started H enc _ => lifted os started H enc)

/-- ████ THE STATEMENT ████ -/
theorem proved : Rows.FnComparatorOfMirrorSaid :=
  over
#print axioms proved
end Go.Proofs.Qxb6600062a.fnComparatorOfMirror
