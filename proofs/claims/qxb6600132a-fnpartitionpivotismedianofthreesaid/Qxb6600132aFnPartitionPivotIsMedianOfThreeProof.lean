/-
  'Rows.FnPartitionPivotIsMedianOfThreeSaid' proved: the row's step over the walk.
-/
import Derived.Test.Qxb6600132aRows
import Derived.Test.Qxb6600132aWalk5
import Derived.Test.Qxb6600132aOpen
import Derived.Test.Qxb6600132aHead
import Derived.WalkKit
import Derived.ProofKit
import Derived.OpenShut
import Derived.ChangeOld
import Derived.Below
import Derived.Lib.SmallJoins
namespace Go.Proofs.Qxb6600132a.fnPartitionPivotIsMedianOfThree
open Go.ChangeShapes Go.WideShapes Go.ChangeAt Go.RowKit Go.Joins

theorem own : ownKnob Try.prog.godebug = none := by kernel_rfl
theorem laidOut : laidOutB Try.prog = true := by kernel_rfl

set_option maxRecDepth 100000 in
theorem lifted (os : Os) (started : os.Started) (H : Type) (enc : TypeId × Value → H) :
    ReturnsInHanded {} Try.checked os 5 .any (Rows.fnPartitionPivotIsMedianOfThreeSpec.pre6 enc Try.prog Try.f5 Rows.fnPartitionPivotIsMedianOfThreeRow.domain false) (Rows.fnPartitionPivotIsMedianOfThreeSpec.post enc Try.prog Try.f5 false true false false) := by
  refine returnsInHanded_of_change (C := Try.checked) own started (by kernel_rfl) Try.func5
    (ChangeSpec.witness6 (enc := enc) (C := Try.checked) false ⟨#[], #[.slice none 0 0], []⟩ 8 (by kernel_rfl) (by kernel_rfl) (by kernel_rfl) (by kernel_rfl)) ?_
  intro W base args ds gs before hval0 hW hcnd _
  have hval : ∀ (j : Nat) t v, Try.f5.params[j]? = some t → args[j]? = some v → Value.okWide Try.prog W .any base t v := hval0
  have hW' := hW
  obtain ⟨p, q, hA0, hV, rfl, hfz, hnd⟩ := hW
  have hA : DataW.TrodAll enc Try.prog W 0 (fun _ => true) true Try.f5.params.toList args.toList ds p := hA0
  rw [Try.params5] at hA hval
  obtain ⟨v0, vs0, d0, ds0, p0, q0, hargs, rfl, rfl, h0, r0⟩ := trodAll_cons hA
  obtain ⟨rfl, rfl, rfl⟩ := trodAll_nil r0
  obtain rfl : args = #[v0] := by cases args; simp_all
  obtain ⟨rfl, rfl⟩ := trodVars_none hV
  have k0 := h0
  have lt0 : ∀ x ∈ p0, x.block < W.heap.size := by obtain ⟨m, hm⟩ := k0; exact DataW.trod_lt m _ _ _ hm
  have hwalk : Calls Try.prog 5 #[v0] W (LawSays W) := by
    obtain ⟨a, len, cap, rfl, hc⟩ := open_cands (hval 0 22 v0 rfl rfl) h0
    rcases hc with hz | ⟨b, off, l, rfl, hl, hat, hb⟩
    · exact early5 a len cap W (.inr hz)
    · exact walk5 b off cap len l W hl hat hb
  clear hA0 hval0
  refine hwalk.mono fun e W' ⟨he, bel⟩ => ?_
  subst he
  exact ⟨_, rfl, _, _, _, [], _, [], hW', trodAll_mk1 (shut_bool Try.underlying4 _), (trodAll_cons_mk (Below.trod laidOut (by kernel_rfl) (of_decide_eq_true (by kernel_rfl)) k0 bel lt0) trodAll_mk0), rfl, bel.frame _, fun h => by cases h⟩

open Head in
theorem closed : joinedFacts Try.checked.prog 5 Try.f5 Rows.fnPartitionPivotIsMedianOfThreeSpec Rows.fnPartitionPivotIsMedianOfThreeRow = true :=
  and_mk (and_mk (and_mk (and_mk (and_mk (and_mk (and_mk (by kernel_rfl) mayEnter_eq) (lift_mk liftsFinal_eq rfl)) (make_mk make_eq rfl)) (by kernel_rfl)) (by kernel_rfl)) (by kernel_rfl)) (by kernel_rfl)

theorem over : Rows.fnPartitionPivotIsMedianOfThreeRow.holds Try.pinned (OpenSpec.ofChange Rows.fnPartitionPivotIsMedianOfThreeSpec) :=
  OpenClaim.holds_of_wide 5 Try.f5 rfl rfl rfl rfl rfl rfl rfl ⟨rfl, rfl, rfl, rfl, rfl⟩ rfl rfl rfl rfl rfl (by kernel_rfl) Try.func5 closed
    (of_decide_eq_true (by kernel_rfl)) (by unfold Func.isWrapper; first | (rw [if_pos (by decide +kernel)]; kernel_rfl) | (rw [if_neg (by decide +kernel)]; exact ⟨rfl, rfl⟩))
    (fun os started H enc _ => lifted os started H enc)

/-- THE STATEMENT -/
theorem proved : Rows.FnPartitionPivotIsMedianOfThreeSaid :=
  over
#print axioms proved
end Go.Proofs.Qxb6600132a.fnPartitionPivotIsMedianOfThree
