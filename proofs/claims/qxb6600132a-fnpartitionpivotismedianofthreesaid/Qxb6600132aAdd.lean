/-
  Seat b6600132a: rows of cells; (Shortfall).add, ZZAdd and FnAddKeepsNormalFormAndValue, walked.
-/
import Derived.Test.Qxb6600132aProg
import Derived.WalkKit
import Derived.RowKit3
import Derived.Below
import Derived.Lib.Builder
import Derived.RegionTactic
import Derived.BigRegion
import Derived.Deep.QuietTactic
import Derived.BigQuiet
namespace Go.Proofs.Qxb6600132a
open Go.RowKit
set_option linter.unusedVariables false

/-- Block N is a row of cells of its own: exactly cs, of type e, nothing frozen. -/
def RowIs (w : World) (N : Nat) (e : TypeId) (cs : List Value) : Prop := w.heap[N]? = some (.cells cs.toArray e (0, 0))
theorem RowIs.cell {w : World} {N : Nat} {e : TypeId} {cs : List Value} (h : RowIs w N e cs) (j : Nat) : w.cell? ⟨N, j, none⟩ = cs[j]? := by
  rw [Lib.cell_of_heap h]; simp
theorem RowIs.frozen {w : World} {N : Nat} {e : TypeId} {cs : List Value} (h : RowIs w N e cs) (j : Nat) : w.frozen? ⟨N, j, none⟩ = false := Lib.frozen_of_heap h j
theorem RowIs.set {w : World} {N : Nat} {e : TypeId} {cs : List Value} (h : RowIs w N e cs) (j : Nat) (v : Value) : RowIs (w.setCell ⟨N, j, none⟩ v) N e (cs.set j v) := by
  unfold RowIs
  rw [heap_setCell_same w N j _ e v h]
  simp
theorem RowIs.other {w : World} {N : Nat} {e : TypeId} {cs : List Value} (h : RowIs w N e cs) (a : Addr) (v : Value) (hne : N ≠ a.block) : RowIs (w.setCell a v) N e cs := by
  unfold RowIs
  rw [Below.heap_setCell _ _ _ _ hne]
  exact h
theorem RowIs.below {w w' : World} {N B : Nat} {e : TypeId} {cs : List Value} (h : RowIs w N e cs) (hb : Below B w w') (hN : N < B) : RowIs w' N e cs := by
  unfold RowIs
  rw [hb.block N hN]
  exact h
theorem RowIs.drewN {w : World} {N : Nat} {e : TypeId} {cs : List Value} (h : RowIs w N e cs) (n : Nat) : RowIs (w.drewN n) N e cs := by
  induction n with
  | zero => exact h
  | succ n ih => exact ih
theorem below_drewN {B : Nat} {a w : World} (h : Below B a w) (n : Nat) : Below B a (w.drewN n) := by
  induction n with
  | zero => exact h
  | succ n ih => exact ih.drew

theorem below_put {B : Nat} {a w : World} (h : Below B a w) (N j : Nat) (v : Value) (hN : B ≤ N) : Below B a (w.setCell ⟨N, j, none⟩ v) := h.setCell (p := ⟨N, j, none⟩) hN v

/-- What add leaves: these cents and this part. -/
def Added (w : World) (N : Nat) (cents part : Int) (e : Ending) (w' : World) : Prop :=
  e = .returned (.tuple #[]) ∧ RowIs w' N 37 [.int .i64 cents, .int .i64 part] ∧ Below N w w'

set_option maxHeartbeats 1000000 in
theorem add_up (N : Nat) (cents part off shares : Int) (w : World) (h : RowIs w N 37 [.int .i64 cents, .int .i64 part])
    (h1 : 0 < shares) (h2 : 0 ≤ part) (h3 : part < shares) (h4 : -shares < off) (h5 : off < shares) (h6 : shares ≤ 9223372036854775807) (ho : 0 ≤ off) (hp : shares - off ≤ part) :
    Calls Try.prog 25 #[.pointer (some ⟨N, 0, none⟩), .int .i64 off, .int .i64 shares] w (Added w N (wrap64 (cents + 1)) (part - (shares - off))) := by
  have c0 : w.cell? ⟨N, 0, none⟩ = some (.int .i64 cents) := by rw [h.cell]; rfl
  have c1 : w.cell? ⟨N, 1, none⟩ = some (.int .i64 part) := by rw [h.cell]; rfl
  have f0 : w.frozen? ⟨N, 0, none⟩ = false := h.frozen 0
  have f1 : w.frozen? ⟨N, 1, none⟩ = false := h.frozen 1
  have HR : Hid (RowIs w N 37 [.int .i64 cents, .int .i64 part]) := h
  clear h
  go_enter Try.func25, Try.ntmps25
  go_wp2
  go_region
  all_goals go_wp2
  all_goals (go_end0; exact ⟨rfl, (HR.out.set 0 _).set 1 _, (below_put (below_put (Below.refl N w) N 0 _ (Nat.le_refl _)) N 1 _ (Nat.le_refl _)).drew⟩)

set_option maxHeartbeats 1000000 in
theorem add_mid1 (N : Nat) (cents part off shares : Int) (w : World) (h : RowIs w N 37 [.int .i64 cents, .int .i64 part])
    (h1 : 0 < shares) (h2 : 0 ≤ part) (h3 : part < shares) (h4 : -shares < off) (h5 : off < shares) (h6 : shares ≤ 9223372036854775807) (ho : 0 ≤ off) (hp : ¬ shares - off ≤ part) :
    Calls Try.prog 25 #[.pointer (some ⟨N, 0, none⟩), .int .i64 off, .int .i64 shares] w (Added w N (cents) (part + off)) := by
  have c0 : w.cell? ⟨N, 0, none⟩ = some (.int .i64 cents) := by rw [h.cell]; rfl
  have c1 : w.cell? ⟨N, 1, none⟩ = some (.int .i64 part) := by rw [h.cell]; rfl
  have f0 : w.frozen? ⟨N, 0, none⟩ = false := h.frozen 0
  have f1 : w.frozen? ⟨N, 1, none⟩ = false := h.frozen 1
  have HR : Hid (RowIs w N 37 [.int .i64 cents, .int .i64 part]) := h
  clear h
  go_enter Try.func25, Try.ntmps25
  go_wp2
  go_end0
  exact ⟨rfl, HR.out.set 1 _, below_put (Below.refl N w) N 1 _ (Nat.le_refl _)⟩

set_option maxHeartbeats 1000000 in
theorem add_mid2 (N : Nat) (cents part off shares : Int) (w : World) (h : RowIs w N 37 [.int .i64 cents, .int .i64 part])
    (h1 : 0 < shares) (h2 : 0 ≤ part) (h3 : part < shares) (h4 : -shares < off) (h5 : off < shares) (h6 : shares ≤ 9223372036854775807) (ho : ¬ 0 ≤ off) (hp : -off ≤ part) :
    Calls Try.prog 25 #[.pointer (some ⟨N, 0, none⟩), .int .i64 off, .int .i64 shares] w (Added w N (cents) (part + off)) := by
  have c0 : w.cell? ⟨N, 0, none⟩ = some (.int .i64 cents) := by rw [h.cell]; rfl
  have c1 : w.cell? ⟨N, 1, none⟩ = some (.int .i64 part) := by rw [h.cell]; rfl
  have f0 : w.frozen? ⟨N, 0, none⟩ = false := h.frozen 0
  have f1 : w.frozen? ⟨N, 1, none⟩ = false := h.frozen 1
  have HR : Hid (RowIs w N 37 [.int .i64 cents, .int .i64 part]) := h
  clear h
  go_enter Try.func25, Try.ntmps25
  go_wp2
  go_end0
  exact ⟨rfl, HR.out.set 1 _, below_put (Below.refl N w) N 1 _ (Nat.le_refl _)⟩

set_option maxHeartbeats 1000000 in
theorem add_down (N : Nat) (cents part off shares : Int) (w : World) (h : RowIs w N 37 [.int .i64 cents, .int .i64 part])
    (h1 : 0 < shares) (h2 : 0 ≤ part) (h3 : part < shares) (h4 : -shares < off) (h5 : off < shares) (h6 : shares ≤ 9223372036854775807) (ho : ¬ 0 ≤ off) (hp : ¬ -off ≤ part) :
    Calls Try.prog 25 #[.pointer (some ⟨N, 0, none⟩), .int .i64 off, .int .i64 shares] w (Added w N (wrap64 (cents - 1)) (part + (shares + off))) := by
  have c0 : w.cell? ⟨N, 0, none⟩ = some (.int .i64 cents) := by rw [h.cell]; rfl
  have c1 : w.cell? ⟨N, 1, none⟩ = some (.int .i64 part) := by rw [h.cell]; rfl
  have f0 : w.frozen? ⟨N, 0, none⟩ = false := h.frozen 0
  have f1 : w.frozen? ⟨N, 1, none⟩ = false := h.frozen 1
  have HR : Hid (RowIs w N 37 [.int .i64 cents, .int .i64 part]) := h
  clear h
  go_enter Try.func25, Try.ntmps25
  go_wp2
  go_region
  all_goals go_wp2
  all_goals (go_end0; exact ⟨rfl, (HR.out.set 0 _).set 1 _, (below_put (below_put (Below.refl N w) N 0 _ (Nat.le_refl _)) N 1 _ (Nat.le_refl _)).drew⟩)

theorem zzAdd_of (N : Nat) (cents part off shares : Int) (w : World) (h : Calls Try.prog 25 #[.pointer (some ⟨N, 0, none⟩), .int .i64 off, .int .i64 shares] w (Added w N cents part)) :
    Calls Try.prog 20 #[.pointer (some ⟨N, 0, none⟩), .int .i64 off, .int .i64 shares] w (Added w N cents part) := by
  have H : Hid (Calls Try.prog 25 #[.pointer (some ⟨N, 0, none⟩), .int .i64 off, .int .i64 shares] w (Added w N cents part)) := h
  clear h
  go_enter Try.func20, Try.ntmps20
  go_wp2_with fail
  refine H.out.mono ?_
  rintro e w' ⟨rfl, hr, hb⟩
  have HH : Hid (RowIs w' N 37 [.int .i64 cents, .int .i64 part] ∧ Below N w w') := ⟨hr, hb⟩
  clear hr hb H
  go_wp2
  go_end0
  exact ⟨rfl, HH.out.1, HH.out.2⟩

/-- The four ways of add: what it leaves meets the law. -/
structure AddLaw (cents part off shares C P d : Int) : Prop where
  hd : wrap64 (C - cents) = d
  d1 : d = -1 ∨ d = 0 ∨ d = 1
  p0 : 0 ≤ P
  p1 : P < shares
  val : d * shares + (P - part) = off

theorem wrap64_small {x : Int} (h0 : -9223372036854775808 ≤ x) (h1 : x ≤ 9223372036854775807) : wrap64 x = x := by unfold wrap64; omega

theorem add_some (N : Nat) (cents part off shares : Int) (w : World) (h : RowIs w N 37 [.int .i64 cents, .int .i64 part]) (hc0 : -9223372036854775808 ≤ cents) (hc1 : cents ≤ 9223372036854775807)
    (h1 : 0 < shares) (h2 : 0 ≤ part) (h3 : part < shares) (h4 : -shares < off) (h5 : off < shares) (h6 : shares ≤ 9223372036854775807) :
    ∃ C P d, Calls Try.prog 20 #[.pointer (some ⟨N, 0, none⟩), .int .i64 off, .int .i64 shares] w (Added w N C P) ∧ AddLaw cents part off shares C P d := by
  by_cases ho : 0 ≤ off
  · by_cases hp : shares - off ≤ part
    · refine ⟨_, _, 1, zzAdd_of _ _ _ _ _ _ (add_up N cents part off shares w h h1 h2 h3 h4 h5 h6 ho hp), ?_⟩
      exact ⟨by unfold wrap64; omega, .inr (.inr rfl), by omega, by omega, by omega⟩
    · refine ⟨_, _, 0, zzAdd_of _ _ _ _ _ _ (add_mid1 N cents part off shares w h h1 h2 h3 h4 h5 h6 ho hp), ?_⟩
      exact ⟨by unfold wrap64; omega, .inr (.inl rfl), by omega, by omega, by omega⟩
  · by_cases hp : -off ≤ part
    · refine ⟨_, _, 0, zzAdd_of _ _ _ _ _ _ (add_mid2 N cents part off shares w h h1 h2 h3 h4 h5 h6 ho hp), ?_⟩
      exact ⟨by unfold wrap64; omega, .inr (.inl rfl), by omega, by omega, by omega⟩
    · refine ⟨_, _, -1, zzAdd_of _ _ _ _ _ _ (add_down N cents part off shares w h h1 h2 h3 h4 h5 h6 ho hp), ?_⟩
      exact ⟨by unfold wrap64; omega, .inl rfl, by omega, by omega, by omega⟩

set_option maxHeartbeats 1000000 in
theorem walk8 (cents part off shares : Int) (w : World) (b0 : -9223372036854775808 ≤ cents ∧ cents ≤ 9223372036854775807) (b1 : -9223372036854775808 ≤ part ∧ part ≤ 9223372036854775807)
    (b2 : -9223372036854775808 ≤ off ∧ off ≤ 9223372036854775807) (b3 : -9223372036854775808 ≤ shares ∧ shares ≤ 9223372036854775807) :
    Calls Try.prog 8 #[.int .i64 cents, .int .i64 part, .int .i64 off, .int .i64 shares] w fun e w' => e = .returned (.bool true) ∧ Below w.heap.size w w' := by
  obtain ⟨c0, c1⟩ := b0; obtain ⟨q0, q1⟩ := b1; obtain ⟨o0, o1⟩ := b2; obtain ⟨s0, s1⟩ := b3
  by_cases h1 : shares ≤ 0
  · go_enter Try.func8, Try.ntmps8
    go_wp2
    go_ret
    exact ⟨rfl, Below.refl _ _⟩
  by_cases h2 : part < 0
  · go_enter Try.func8, Try.ntmps8
    go_wp2
    go_ret
    exact ⟨rfl, Below.refl _ _⟩
  by_cases h3 : shares ≤ part
  · go_enter Try.func8, Try.ntmps8
    go_wp2
    go_ret
    exact ⟨rfl, Below.refl _ _⟩
  by_cases h4 : off ≤ -shares
  · go_enter Try.func8, Try.ntmps8
    go_wp2
    go_ret
    exact ⟨rfl, Below.refl _ _⟩
  by_cases h5 : shares ≤ off
  · go_enter Try.func8, Try.ntmps8
    go_wp2
    go_ret
    exact ⟨rfl, Below.refl _ _⟩
  go_enter Try.func8, Try.ntmps8
  go_wp2_with fail
  obtain ⟨C, P, d, hcall, law⟩ := add_some w.heap.size cents part off shares (w.alloc (.cells #[.int .i64 cents, .int .i64 part] 37))
    (by show (w.heap.push _)[w.heap.size]? = _; simp) c0 c1 (by omega) (by omega) (by omega) (by omega) (by omega) (by omega)
  refine hcall.mono ?_
  clear hcall
  rintro e w1 ⟨rfl, hr, hb⟩
  have e0 : w1.cell? ⟨w.heap.size, 0, none⟩ = some (.int .i64 C) := by rw [hr.cell]; rfl
  have e1 : w1.cell? ⟨w.heap.size, 1, none⟩ = some (.int .i64 P) := by rw [hr.cell]; rfl
  have HB : Hid (Below w.heap.size w w1) := ((Below.refl _ _).alloc (Nat.le_refl _) _).trans hb
  obtain ⟨hd, d1, p0, p1, val⟩ := law
  clear hr hb
  rcases d1 with rfl | rfl | rfl
  · have hv2 : (wrap64 (-shares + (P - part)) == off) = true := beq_iff_eq.2 (by unfold wrap64; omega)
    clear val
    go_wp2
    go_ret
    exact ⟨rfl, HB.out⟩
  · have hv2 : (P - part == off) = true := beq_iff_eq.2 (by omega)
    clear val
    go_wp2
    go_ret
    exact ⟨rfl, HB.out⟩
  · have hv2 : (wrap64 (shares + (P - part)) == off) = true := beq_iff_eq.2 (by unfold wrap64; omega)
    clear val
    go_wp2
    go_ret
    exact ⟨rfl, HB.out⟩
end Go.Proofs.Qxb6600132a
