/-
  'Rows.FnBeforeTrichotomySaid' proved: the row's step over the walk.
-/
import Derived.Test.Qxb6600132aRows
import Derived.Test.Qxb6600132aBefore
import Derived.Test.Qxb6600132aHead
import Derived.WalkKit
import Derived.ProofKit
import Derived.OpenShut
import Derived.ChangeOld
import Derived.Below
import Derived.Lib.SmallJoins
namespace Go.Proofs.Qxb6600132a.fnBeforeTrichotomy
open Go.ChangeShapes Go.WideShapes Go.ChangeAt Go.RowKit Go.Joins

theorem own : ownKnob Try.prog.godebug = none := by kernel_rfl
theorem laidOut : laidOutB Try.prog = true := by kernel_rfl
theorem cells32 : Try.prog.cellsOf 32 = 3 := by kernel_rfl

set_option maxRecDepth 100000 in
theorem lifted (os : Os) (started : os.Started) (H : Type) (enc : TypeId × Value → H) :
    ReturnsInHanded {} Try.checked os 6 .any (Rows.fnBeforeTrichotomySpec.pre6 enc Try.prog Try.f6 Rows.fnBeforeTrichotomyRow.domain false) (Rows.fnBeforeTrichotomySpec.post enc Try.prog Try.f6 false true false false) := by
  refine returnsInHanded_of_change (C := Try.checked) own started (by kernel_rfl) Try.func6
    (ChangeSpec.witness6 (enc := enc) (C := Try.checked) false ⟨#[], #[.agg #[.int .i64 0, .int .i64 0, .int .i64 0], .agg #[.int .i64 0, .int .i64 0, .int .i64 0]], []⟩ 8 (by kernel_rfl) (by kernel_rfl) (by kernel_rfl) (by kernel_rfl)) ?_
  intro W base args ds gs before hval0 hW hcnd _
  have hval : ∀ (j : Nat) t v, Try.f6.params[j]? = some t → args[j]? = some v → Value.okWide Try.prog W .any base t v := hval0
  have hW' := hW
  obtain ⟨p, q, hA0, hV, rfl, hfz, hnd⟩ := hW
  have hA : DataW.TrodAll enc Try.prog W 0 (fun _ => true) true Try.f6.params.toList args.toList ds p := hA0
  rw [Try.params6] at hA hval
  obtain ⟨v0, vs0, d0, ds0, p0, q0, hargs, rfl, rfl, h0, r0⟩ := trodAll_cons hA
  obtain ⟨v1, vs1, d1, ds1, p1, q1, rfl, rfl, rfl, h1, r1⟩ := trodAll_cons r0
  obtain ⟨rfl, rfl, rfl⟩ := trodAll_nil r1
  obtain rfl : args = #[v0, v1] := by cases args; simp_all
  obtain ⟨rfl, rfl⟩ := trodVars_none hV
  have k0 := h0
  have lt0 : ∀ x ∈ p0, x.block < W.heap.size := by obtain ⟨m, hm⟩ := k0; exact DataW.trod_lt m _ _ _ hm
  have k1 := h1
  have lt1 : ∀ x ∈ p1, x.block < W.heap.size := by obtain ⟨m, hm⟩ := k1; exact DataW.trod_lt m _ _ _ hm
  obtain ⟨x, hx⟩ : ∃ x : Cd, v0 = x.v := by
    obtain ⟨c0, c1, c2, y0, y1, y2, m, hv, _, _, hy0, hy1, hy2⟩ := open_agg3 Try.underlying32 (by kernel_rfl) cells32 (hval 0 32 v0 rfl rfl) h0
    obtain ⟨a, e0, _, _⟩ := DataW.trod_int Try.underlying2 hy0
    obtain ⟨b, e1, _, _⟩ := DataW.trod_int Try.underlying2 hy1
    obtain ⟨c, e2, _, _⟩ := DataW.trod_int Try.underlying3 hy2
    simp at e0 e1 e2
    subst e0 e1 e2
    exact ⟨⟨a, b, c⟩, hv⟩
  obtain ⟨y, hy⟩ : ∃ y : Cd, v1 = y.v := by
    obtain ⟨c0, c1, c2, y0, y1, y2, m, hv, _, _, hy0, hy1, hy2⟩ := open_agg3 Try.underlying32 (by kernel_rfl) cells32 (hval 1 32 v1 rfl rfl) h1
    obtain ⟨a, e0, _, _⟩ := DataW.trod_int Try.underlying2 hy0
    obtain ⟨b, e1, _, _⟩ := DataW.trod_int Try.underlying2 hy1
    obtain ⟨c, e2, _, _⟩ := DataW.trod_int Try.underlying3 hy2
    simp at e0 e1 e2
    subst e0 e1 e2
    exact ⟨⟨a, b, c⟩, hv⟩
  subst hx hy
  clear hA0 hval0
  refine (walk6 x y W).mono fun e W' ⟨he, bel⟩ => ?_
  subst he
  exact ⟨_, rfl, _, _, _, [], _, [], hW', trodAll_mk1 (shut_bool Try.underlying4 _), (trodAll_cons_mk (Below.trod laidOut (by kernel_rfl) (of_decide_eq_true (by kernel_rfl)) k0 bel lt0) (trodAll_cons_mk (Below.trod laidOut (by kernel_rfl) (of_decide_eq_true (by kernel_rfl)) k1 bel lt1) trodAll_mk0)), rfl, bel.frame _, fun h => by cases h⟩

open Head in
theorem closed : joinedFacts Try.checked.prog 6 Try.f6 Rows.fnBeforeTrichotomySpec Rows.fnBeforeTrichotomyRow = true :=
  and_mk (and_mk (and_mk (and_mk (and_mk (and_mk (and_mk (by kernel_rfl) mayEnter_eq) (lift_mk liftsFinal_eq rfl)) (make_mk make_eq rfl)) (by kernel_rfl)) (by kernel_rfl)) (by kernel_rfl)) (by kernel_rfl)

theorem over : Rows.fnBeforeTrichotomyRow.holds Try.pinned (OpenSpec.ofChange Rows.fnBeforeTrichotomySpec) :=
  OpenClaim.holds_of_wide 6 Try.f6 rfl rfl rfl rfl rfl rfl rfl ⟨rfl, rfl, rfl, rfl, rfl⟩ rfl rfl rfl rfl rfl (by kernel_rfl) Try.func6 closed
    (of_decide_eq_true (by kernel_rfl)) (by unfold Func.isWrapper; first | (rw [if_pos (by decide +kernel)]; kernel_rfl) | (rw [if_neg (by decide +kernel)]; exact ⟨rfl, rfl⟩))
    (fun os started H enc _ => lifted os started H enc)

/-- THE STATEMENT -/
theorem proved : Rows.FnBeforeTrichotomySaid :=
  over
#print axioms proved
end Go.Proofs.Qxb6600132a.fnBeforeTrichotomy
