/-
  Seat b6600132a: before, ZZBefore, zzCandOf and FnBeforeTrichotomy, walked.
-/
import Derived.Test.Qxb6600132aAdd
namespace Go.Proofs.Qxb6600132a
open Go.RowKit

/-- A candidate: cents, part, place. -/
structure Cd where
  c : Int
  p : Int
  a : Int
/-- .. as a value. -/
def Cd.v (x : Cd) : Value := .agg #[.int .i64 x.c, .int .i64 x.p, .int .i64 x.a]
/-- .. as cells. -/
def Cd.cells (x : Cd) : List Value := [.int .i64 x.c, .int .i64 x.p, .int .i64 x.a]
/-- What 'before' answers. -/
def bef (x y : Cd) : Bool := if x.c = y.c then (if x.p = y.p then decide (x.a < y.a) else decide (x.p < y.p)) else decide (x.c < y.c)

theorem before_any (x y : Cd) (w : World) : Calls Try.prog 24 #[x.v, y.v] w fun e w' => e = .returned (.bool (bef x y)) ∧ Below w.heap.size w w' := by
  obtain ⟨c, p, a⟩ := x
  obtain ⟨d, q, b⟩ := y
  unfold Cd.v
  by_cases h1 : c = d
  · subst h1
    by_cases h2 : p = q
    · subst h2
      have hb : bef ⟨c, p, a⟩ ⟨c, p, b⟩ = decide (a < b) := by simp [bef]
      rw [hb]
      clear hb
      go_enter Try.func24, Try.ntmps24
      go_wp2
      go_ret
      exact ⟨rfl, ((Below.refl _ _).alloc (Nat.le_refl _) _).alloc (by simp) _⟩
    · have hb : bef ⟨c, p, a⟩ ⟨c, q, b⟩ = decide (p < q) := by simp [bef, h2]
      rw [hb]
      clear hb
      have h2' : (p != q) = true := by simpa using h2
      go_enter Try.func24, Try.ntmps24
      go_wp2
      go_ret
      exact ⟨rfl, ((Below.refl _ _).alloc (Nat.le_refl _) _).alloc (by simp) _⟩
  · have hb : bef ⟨c, p, a⟩ ⟨d, q, b⟩ = decide (c < d) := by simp [bef, h1]
    rw [hb]
    clear hb
    have h1' : (c != d) = true := by simpa using h1
    go_enter Try.func24, Try.ntmps24
    go_wp2
    go_ret
    exact ⟨rfl, ((Below.refl _ _).alloc (Nat.le_refl _) _).alloc (by simp) _⟩

theorem zzBefore_any (x y : Cd) (w : World) : Calls Try.prog 17 #[x.v, y.v] w fun e w' => e = .returned (.bool (bef x y)) ∧ Below w.heap.size w w' := by
  have hx : x.v = .agg #[.int .i64 x.c, .int .i64 x.p, .int .i64 x.a] := rfl
  have hy : y.v = .agg #[.int .i64 y.c, .int .i64 y.p, .int .i64 y.a] := rfl
  rw [hx, hy]
  clear hx hy
  go_enter Try.func17, Try.ntmps17
  go_wp2_with fail
  refine (before_any x y _).mono ?_
  rintro e w1 ⟨rfl, hb⟩
  have HB : Hid (Below w.heap.size w w1) := (((Below.refl _ _).alloc (Nat.le_refl _) _).alloc (by simp) _).trans (hb.mono (by simp; omega))
  clear hb
  go_wp2
  go_ret
  exact ⟨rfl, HB.out⟩

theorem candOf_any (x : Cd) (w : World) : Calls Try.prog 19 #[x.v] w fun e w' => e = .returned x.v ∧ Below w.heap.size w w' := by
  have hx : x.v = .agg #[.int .i64 x.c, .int .i64 x.p, .int .i64 x.a] := rfl
  rw [hx]
  clear hx
  go_enter Try.func19, Try.ntmps19
  go_wp2
  refine bodyPost_ret (v := .agg #[.int .i64 x.c, .int .i64 x.p, .int .i64 x.a]) (by simp [results, Try.results19, go_sem]) rfl ⟨rfl, ?_⟩
  exact ((Below.refl _ _).alloc (Nat.le_refl _) _).alloc (by simp) _

theorem bef_ext {x y : Cd} (h : x.c = y.c ∧ x.p = y.p ∧ x.a = y.a) : x = y := by
  obtain ⟨c, p, a⟩ := x; obtain ⟨d, q, b⟩ := y
  obtain ⟨h1, h2, h3⟩ := h
  simp only at h1 h2 h3
  rw [h1, h2, h3]
theorem bef_irrefl (x : Cd) : bef x x = false := by simp [bef]
theorem bef_asymm (x y : Cd) (h : bef x y = true) : bef y x = false := by
  obtain ⟨c, p, a⟩ := x; obtain ⟨d, q, b⟩ := y
  simp only [bef] at *
  by_cases h1 : c = d
  · subst h1
    by_cases h2 : p = q
    · subst h2; simp at *; omega
    · have : ¬ q = p := fun e => h2 e.symm
      simp [h2, this] at *; omega
  · have : ¬ d = c := fun e => h1 e.symm
    simp [h1, this] at *; omega
theorem bef_total (x y : Cd) (h1 : bef x y = false) (h2 : bef y x = false) : x = y := by
  obtain ⟨c, p, a⟩ := x; obtain ⟨d, q, b⟩ := y
  simp only [bef] at *
  by_cases e1 : c = d
  · subst e1
    by_cases e2 : p = q
    · subst e2
      simp at h1 h2
      have : a = b := by omega
      rw [this]
    · have e2' : ¬ q = p := fun e => e2 e.symm
      simp [e2, e2'] at h1 h2
      omega
  · have e1' : ¬ d = c := fun e => e1 e.symm
    simp [e1, e1'] at h1 h2
    omega

theorem row_new (w : World) (e : TypeId) (cs : List Value) : RowIs (w.alloc (.cells cs.toArray e)) w.heap.size e cs := by
  show (w.heap.push _)[w.heap.size]? = _
  simp
/-- Three cells of a row, as a walk reads them. -/
theorem RowIs.three {w : World} {N : Nat} {e : TypeId} {x : Cd} (h : RowIs w N e x.cells) :
    w.cell? ⟨N, 0, none⟩ = some (.int .i64 x.c) ∧ w.cell? ⟨N, 1, none⟩ = some (.int .i64 x.p) ∧ w.cell? ⟨N, 2, none⟩ = some (.int .i64 x.a) :=
  ⟨by rw [h.cell]; rfl, by rw [h.cell]; rfl, by rw [h.cell]; rfl⟩

set_option maxHeartbeats 1000000 in
theorem walk6 (x y : Cd) (w : World) : Calls Try.prog 6 #[x.v, y.v] w fun e w' => e = .returned (.bool true) ∧ Below w.heap.size w w' := by
  have hx : x.v = .agg #[.int .i64 x.c, .int .i64 x.p, .int .i64 x.a] := rfl
  have hy : y.v = .agg #[.int .i64 y.c, .int .i64 y.p, .int .i64 y.a] := rfl
  rw [hx, hy]
  clear hx hy
  go_enter Try.func6, Try.ntmps6
  go_wp2_with fail
  refine (candOf_any x _).mono ?_
  rintro e w1 ⟨rfl, hb⟩
  unfold Cd.v
  have r1 : RowIs w1 w.heap.size 32 x.cells := (RowIs.below (row_new w 32 x.cells) ((Below.refl (w.heap.size + 1) _).alloc (by simp) _) (by omega)).below hb (by simp; omega)
  have r2 : RowIs w1 (w.heap.size + 1) 32 y.cells := by
    have := RowIs.below (row_new (w.alloc (.cells x.cells.toArray 32)) 32 y.cells) hb (by simp [Cd.cells])
    simpa using this
  have hz1 : w.heap.size + 1 < w1.heap.size := by have := hb.size; simp at this; omega
  have hz0 : w.heap.size < w1.heap.size := by omega
  have hb1 : Below w.heap.size w w1 := (((Below.refl _ _).alloc (Nat.le_refl _) _).alloc (by simp) _).trans (hb.mono (by simp; omega))
  clear hb
  obtain ⟨x0, x1, x2⟩ := r1.three
  obtain ⟨y0, y1, y2⟩ := r2.three
  have HR : Hid (RowIs w1 w.heap.size 32 x.cells ∧ RowIs w1 (w.heap.size + 1) 32 y.cells ∧ Below w.heap.size w w1) := ⟨r1, r2, hb1⟩
  clear r1 r2 hb1
  go_wp2_with fail
  refine (candOf_any y _).mono ?_
  rintro e w2 ⟨rfl, hb⟩
  unfold Cd.v
  have q0 := row_new w1 30 x.cells
  have hbx : Below w1.heap.size w1 (w1.alloc (.cells x.cells.toArray 30)) := (Below.refl _ _).alloc (Nat.le_refl _) _
  have r1 : RowIs w2 w.heap.size 32 x.cells := (HR.out.1.below hbx (by omega)).below hb (by simp; omega)
  have r2 : RowIs w2 (w.heap.size + 1) 32 y.cells := (HR.out.2.1.below hbx (by omega)).below hb (by simp; omega)
  have r3 : RowIs w2 w1.heap.size 30 x.cells := q0.below hb (by simp)
  have hz2 : w1.heap.size < w2.heap.size := by have := hb.size; simp at this; omega
  have hb2 : Below w.heap.size w w2 := (HR.out.2.2.trans (hbx.mono (by omega))).trans (hb.mono (by simp; omega))
  clear hb q0 hbx x0 x1 x2 y0 y1 y2 HR
  have HR : Hid (RowIs w2 w.heap.size 32 x.cells ∧ RowIs w2 (w.heap.size + 1) 32 y.cells ∧ RowIs w2 w1.heap.size 30 x.cells ∧ Below w.heap.size w w2) := ⟨r1, r2, r3, hb2⟩
  obtain ⟨x0, x1, x2⟩ := r3.three
  clear r1 r2 r3 hb2
  go_wp2_with fail
  refine (zzBefore_any x y _).mono ?_
  rintro e w3 ⟨rfl, hb⟩
  have q0 := row_new w2 30 y.cells
  have hbx : Below w2.heap.size w2 (w2.alloc (.cells y.cells.toArray 30)) := (Below.refl _ _).alloc (Nat.le_refl _) _
  have r1 : RowIs w3 w.heap.size 32 x.cells := (HR.out.1.below hbx (by omega)).below hb (by simp; omega)
  have r2 : RowIs w3 (w.heap.size + 1) 32 y.cells := (HR.out.2.1.below hbx (by omega)).below hb (by simp; omega)
  have r3 : RowIs w3 w1.heap.size 30 x.cells := (HR.out.2.2.1.below hbx (by omega)).below hb (by simp; omega)
  have r4 : RowIs w3 w2.heap.size 30 y.cells := q0.below hb (by simp)
  have hz3 : w2.heap.size < w3.heap.size := by have := hb.size; simp at this; omega
  have hb3 : Below w.heap.size w w3 := (HR.out.2.2.2.trans (hbx.mono (by omega))).trans (hb.mono (by simp; omega))
  clear hb q0 hbx x0 x1 x2 HR
  have HR : Hid (RowIs w3 w.heap.size 32 x.cells ∧ RowIs w3 (w.heap.size + 1) 32 y.cells ∧ Below w.heap.size w w3) := ⟨r1, r2, hb3⟩
  obtain ⟨x0, x1, x2⟩ := r3.three
  obtain ⟨y0, y1, y2⟩ := r4.three
  clear r1 r2 r3 r4 hb3
  cases h1 : bef x y
  · cases h2 : bef y x
    · obtain rfl := bef_total x y h1 h2
      go_wp2_with fail
      refine (zzBefore_any x x _).mono ?_
      rintro e w4 ⟨rfl, hb⟩
      obtain ⟨a0, a1, a2⟩ := (HR.out.1.below hb (by omega)).three
      obtain ⟨b0, b1, b2⟩ := (HR.out.2.1.below hb (by omega)).three
      have HB : Hid (Below w.heap.size w w4) := HR.out.2.2.trans (hb.mono (by omega))
      clear hb HR x0 x1 x2 y0 y1 y2
      go_wp2
      go_ret
      exact ⟨rfl, HB.out⟩
    · have HNE : Hid (¬ (x.c = y.c ∧ x.p = y.p ∧ x.a = y.a)) := fun h => by
        have := bef_ext h
        rw [this, bef_irrefl] at h2
        cases h2
      go_wp2_with fail
      refine (zzBefore_any y x _).mono ?_
      rintro e w4 ⟨rfl, hb⟩
      obtain ⟨a0, a1, a2⟩ := (HR.out.1.below hb (by omega)).three
      obtain ⟨b0, b1, b2⟩ := (HR.out.2.1.below hb (by omega)).three
      have HB : Hid (Below w.heap.size w w4) := HR.out.2.2.trans (hb.mono (by omega))
      clear hb HR x0 x1 x2 y0 y1 y2
      go_wp2
      all_goals first | (exact (HNE.out ⟨‹_›, ‹_›, ‹_›⟩).elim) | (go_ret; exact ⟨rfl, HB.out⟩)
  · have h2 := bef_asymm x y h1
    have HNE : Hid (¬ (x.c = y.c ∧ x.p = y.p ∧ x.a = y.a)) := fun h => by
      have := bef_ext h
      rw [this, bef_irrefl] at h1
      cases h1
    go_wp2_with fail
    refine (zzBefore_any y x _).mono ?_
    rintro e w4 ⟨rfl, hb⟩
    obtain ⟨a0, a1, a2⟩ := (HR.out.1.below hb (by omega)).three
    obtain ⟨b0, b1, b2⟩ := (HR.out.2.1.below hb (by omega)).three
    have HB : Hid (Below w.heap.size w w4) := HR.out.2.2.trans (hb.mono (by omega))
    clear hb HR x0 x1 x2 y0 y1 y2
    go_wp2
    all_goals first | (exact (HNE.out ⟨‹_›, ‹_›, ‹_›⟩).elim) | (go_ret; exact ⟨rfl, HB.out⟩)
end Go.Proofs.Qxb6600132a
