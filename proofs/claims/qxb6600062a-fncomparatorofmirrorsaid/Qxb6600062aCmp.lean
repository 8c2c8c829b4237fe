/-
  Shared walks of seat b6600062a: spell, comparatorOf, ZZComparatorOf, and the plain facts on them.
-/
import Derived.Test.Qxb6600062aProg
import Derived.WalkKit
namespace Go.Proofs.Qxb6600062a
open Go.RowKit

/-- What 'spell' computes. -/
def spellB (k : Int) : ByteArray :=
  if k == 1 then ⟨#[61]⟩ else if k == 2 then ⟨#[33, 61]⟩ else if k == 3 then ⟨#[60]⟩ else if k == 4 then ⟨#[60, 61]⟩
  else if k == 5 then ⟨#[62]⟩ else if k == 6 then ⟨#[62, 61]⟩ else ⟨#[]⟩

/-- What 'comparatorOf' computes: the comparator. -/
def cmpC (l : List UInt8) : Int :=
  if l == [61] then 1 else if l == [33, 61] then 2 else if l == [60, 62] then 2 else if l == [60] then 3
  else if l == [60, 61] then 4 else if l == [62] then 5 else if l == [62, 61] then 6 else 0

/-- What 'comparatorOf' computes: whether the text is an operator. -/
def cmpOk (l : List UInt8) : Bool :=
  l == [61] || l == [33, 61] || l == [60, 62] || l == [60] || l == [60, 61] || l == [62] || l == [62, 61]

theorem spell_any (k : Int) (w : World) :
    Calls Try.prog 20 #[.int .u8 k] w fun e w' => e = .returned (.string (spellB k)) ∧ w' = w := by
  go_enter Try.func20, Try.ntmps20
  go_wp2
  all_goals (go_ret; exact ⟨by simp [spellB, *], rfl⟩)

theorem comparatorOf_any (s : ByteArray) (w : World) :
    Calls Try.prog 34 #[.string s] w fun e w' => e = .returned (.tuple #[.int .u8 (cmpC s.toList), .bool (cmpOk s.toList)]) ∧ w' = w := by
  go_enter Try.func34, Try.ntmps34
  go_wp2
  all_goals (go_ret2; exact ⟨by simp_all [cmpC, cmpOk], rfl⟩)

theorem zzComparatorOf_any (s : ByteArray) (w : World) :
    Calls Try.prog 13 #[.string s] w fun e w' => e = .returned (.tuple #[.int .u8 (cmpC s.toList), .bool (cmpOk s.toList)]) ∧ w' = w := by
  go_enter Try.func13, Try.ntmps13
  go_wp2_with (go_at_call 34; refine (comparatorOf_any _ _).mono ?_; rintro e w' ⟨rfl, rfl⟩)
  go_ret2
  exact ⟨rfl, rfl⟩

theorem spell_back (k : Int) (h : (spellB k).toList ≠ []) : cmpOk (spellB k).toList = true ∧ cmpC (spellB k).toList = k := by
  revert h
  unfold spellB
  repeat' split
  all_goals (simp_all [cmpC, cmpOk])

theorem cmp_yes (l : List UInt8) (h : cmpOk l = true) : l = (spellB (cmpC l)).toList ∨ (l = [60, 62] ∧ cmpC l = 2 ∧ (l == (spellB (cmpC l)).toList) = false) := by
  simp only [cmpOk, Bool.or_eq_true, beq_iff_eq] at h
  rcases h with ((((((rfl | rfl) | rfl) | rfl) | rfl) | rfl) | rfl)
  all_goals (simp [spellB, cmpC])

theorem cmp_no (l : List UInt8) (h : cmpOk l = false) : cmpC l = 0 ∧ (l == [60, 62]) = false ∧ ∀ x, (spellB x).toList ≠ [] → ((spellB x).toList == l) = false := by
  refine ⟨by simp_all [cmpOk, cmpC], by simp_all [cmpOk], fun x hx => ?_⟩
  have := (spell_back x hx).1
  rw [beq_eq_false_iff_ne]
  intro e
  rw [e, h] at this
  cases this
end Go.Proofs.Qxb6600062a
