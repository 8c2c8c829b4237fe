/-
  Seat b6600132a: the early ways of the two partition laws, and the state under way.
-/
import Derived.Test.Qxb6600132aLaws
import Derived.Test.Qxb6600132aZZPart
namespace Go.Proofs.Qxb6600132a
open Go.RowKit

/-- The law's answer. -/
def LawSays (w : World) (e : Ending) (w' : World) : Prop := e = .returned (.bool true) ∧ Below w.heap.size w w'

theorem guard16 (a : Option Addr) (len cap : Nat) (w : World) : Calls Try.prog 16 #[.slice a len cap] w fun e w' => e = .returned (.bool (decide (len ≤ 1048576))) ∧ w' = w := by
  by_cases h : len ≤ 1048576
  · rw [decide_eq_true h]
    go_enter Try.func16, Try.ntmps16
    go_wp2
    go_ret
    exact ⟨rfl, rfl⟩
  · rw [decide_eq_false h]
    go_enter Try.func16, Try.ntmps16
    go_wp2
    go_ret
    exact ⟨rfl, rfl⟩
theorem guard18 (a : Option Addr) (len cap : Nat) (w : World) : Calls Try.prog 18 #[.slice a len cap] w fun e w' => e = .returned (.bool (decide (len ≤ 1048576))) ∧ w' = w := by
  by_cases h : len ≤ 1048576
  · rw [decide_eq_true h]
    go_enter Try.func18, Try.ntmps18
    go_wp2
    go_ret
    exact ⟨rfl, rfl⟩
  · rw [decide_eq_false h]
    go_enter Try.func18, Try.ntmps18
    go_wp2
    go_ret
    exact ⟨rfl, rfl⟩

theorem early4 (a : Option Addr) (len cap : Nat) (w : World) (h : 16384 < len ∨ len = 0) : Calls Try.prog 4 #[.slice a len cap] w (LawSays w) := by
  by_cases hg : len ≤ 1048576
  · rcases h with h | h
    · go_enter Try.func4, Try.ntmps4
      go_wp2_with fail
      refine (guard16 a len cap _).mono ?_
      rintro e w1 ⟨rfl, rfl⟩
      rw [decide_eq_true hg]
      go_wp2
      go_ret
      exact ⟨rfl, Below.refl _ _⟩
    · subst h
      go_enter Try.func4, Try.ntmps4
      go_wp2_with fail
      refine (guard16 a 0 cap _).mono ?_
      rintro e w1 ⟨rfl, rfl⟩
      rw [decide_eq_true hg]
      go_wp2
      go_ret
      exact ⟨rfl, Below.refl _ _⟩
  · go_enter Try.func4, Try.ntmps4
    go_wp2_with fail
    refine (guard16 a len cap _).mono ?_
    rintro e w1 ⟨rfl, rfl⟩
    rw [decide_eq_false hg]
    go_wp2
    go_ret
    exact ⟨rfl, Below.refl _ _⟩
theorem early5 (a : Option Addr) (len cap : Nat) (w : World) (h : 16384 < len ∨ len = 0) : Calls Try.prog 5 #[.slice a len cap] w (LawSays w) := by
  by_cases hg : len ≤ 1048576
  · rcases h with h | h
    · go_enter Try.func5, Try.ntmps5
      go_wp2_with fail
      refine (guard18 a len cap _).mono ?_
      rintro e w1 ⟨rfl, rfl⟩
      rw [decide_eq_true hg]
      go_wp2
      go_ret
      exact ⟨rfl, Below.refl _ _⟩
    · subst h
      go_enter Try.func5, Try.ntmps5
      go_wp2_with fail
      refine (guard18 a 0 cap _).mono ?_
      rintro e w1 ⟨rfl, rfl⟩
      rw [decide_eq_true hg]
      go_wp2
      go_ret
      exact ⟨rfl, Below.refl _ _⟩
  · go_enter Try.func5, Try.ntmps5
    go_wp2_with fail
    refine (guard18 a len cap _).mono ?_
    rintro e w1 ⟨rfl, rfl⟩
    rw [decide_eq_false hg]
    go_wp2
    go_ret
    exact ⟨rfl, Below.refl _ _⟩

/-- The law under way: the original row, the split row, the pivot's own copy. -/
structure SSt (w0 : World) (O Z V : Nat) (l F : List Cd) (v : Cd) (w : World) : Prop where
  rowO : Row3 w O 30 l
  rowZ : Row3 w Z 30 F
  rowV : RowIs w V 30 v.cells
  bel : Below w0.heap.size w0 w
  ltO : O < w.heap.size
  ltZ : Z < w.heap.size
  ltV : V < w.heap.size
theorem SSt.called {w0 w w' : World} {O Z V : Nat} {l F : List Cd} {v : Cd} (h : SSt w0 O Z V l F v w) (hb : Below w.drew.heap.size w.drew w') : SSt w0 O Z V l F v w' :=
  ⟨RowIs.below (w := w.drew) h.rowO hb h.ltO, RowIs.below (w := w.drew) h.rowZ hb h.ltZ, RowIs.below (w := w.drew) h.rowV hb h.ltV, h.bel.drew.trans (hb.mono h.bel.size),
    Nat.lt_of_lt_of_le h.ltO hb.size, Nat.lt_of_lt_of_le h.ltZ hb.size, Nat.lt_of_lt_of_le h.ltV hb.size⟩
theorem SSt.atO {w0 w : World} {O Z V : Nat} {l F : List Cd} {v : Cd} (h : SSt w0 O Z V l F v w) (i : Nat) (hi : i < l.length) :
    w.cell? ⟨O, i * 3, none⟩ = some (.int .i64 (cd l i).c) ∧ w.cell? ⟨O, i * 3 + 1, none⟩ = some (.int .i64 (cd l i).p) ∧ w.cell? ⟨O, i * 3 + 2, none⟩ = some (.int .i64 (cd l i).a) := h.rowO.at i hi
theorem SSt.atZ {w0 w : World} {O Z V : Nat} {l F : List Cd} {v : Cd} (h : SSt w0 O Z V l F v w) (i : Nat) (hi : i < F.length) :
    w.cell? ⟨Z, i * 3, none⟩ = some (.int .i64 (cd F i).c) ∧ w.cell? ⟨Z, i * 3 + 1, none⟩ = some (.int .i64 (cd F i).p) ∧ w.cell? ⟨Z, i * 3 + 2, none⟩ = some (.int .i64 (cd F i).a) := h.rowZ.at i hi
theorem SSt.atV {w0 w : World} {O Z V : Nat} {l F : List Cd} {v : Cd} (h : SSt w0 O Z V l F v w) :
    w.cell? ⟨V, 0, none⟩ = some (.int .i64 v.c) ∧ w.cell? ⟨V, 1, none⟩ = some (.int .i64 v.p) ∧ w.cell? ⟨V, 2, none⟩ = some (.int .i64 v.a) := h.rowV.three
theorem SSt.atO0 {w0 w : World} {O Z V : Nat} {l F : List Cd} {v : Cd} (h : SSt w0 O Z V l F v w) (hi : 0 < l.length) :
    w.cell? ⟨O, 0, none⟩ = some (.int .i64 (cd l 0).c) ∧ w.cell? ⟨O, 1, none⟩ = some (.int .i64 (cd l 0).p) ∧ w.cell? ⟨O, 2, none⟩ = some (.int .i64 (cd l 0).a) := by
  have := h.rowO.at 0 hi
  simpa using this
theorem sst_new {w0 w : World} {O Z : Nat} {l F : List Cd} (v : Cd) (hO : Row3 w O 30 l) (hZ : Row3 w Z 30 F) (hb : Below w0.heap.size w0 w) (lO : O < w.heap.size) (lZ : Z < w.heap.size) :
    SSt w0 O Z w.heap.size l F v (w.alloc (.cells v.cells.toArray 30)) := by
  have hx : Below w.heap.size w (w.alloc (.cells v.cells.toArray 30)) := (Below.refl _ _).alloc (Nat.le_refl _) _
  refine ⟨RowIs.below hO hx lO, RowIs.below hZ hx lZ, row_new _ _ _, hb.trans (hx.mono hb.size), ?_, ?_, ?_⟩ <;> simp <;> omega
end Go.Proofs.Qxb6600132a
