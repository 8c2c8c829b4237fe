/-
  Seat b6600132a: a slice of candidates that came in, opened.
-/
import Derived.Test.Qxb6600132aConv
import Derived.Deep.Slices
import Derived.Deep.Strs
import Derived.Lib.SmallJoins
import Derived.OpenShut
namespace Go.Proofs.Qxb6600132a
open Go.RowKit Go.ChangeShapes Go.WideShapes Go.ChangeAt Go.Deep

theorem cell_lt {w : World} {a : Addr} {v : Value} (h : w.cell? a = some v) : a.block < w.heap.size := by
  rcases Nat.lt_or_ge a.block w.heap.size with h1 | h1
  · exact h1
  · simp [World.cell?, h1] at h

theorem cellsOf32 : Try.prog.cellsOf 32 = 3 := by kernel_rfl
theorem cellsOf2 : Try.prog.cellsOf 2 = 1 := by kernel_rfl
theorem cellsOf3 : Try.prog.cellsOf 3 = 1 := by kernel_rfl

/-- A slice of candidates that came in, opened. -/
theorem open_cands {H : Type} {enc : TypeId × Value → H} {W : World} {r : Reach} {b0 : Nat} {v : Value} {d : DataW H} {p : List MemPlace}
    (hv : Value.okWide Try.prog W r b0 22 v) (h : DataW.Trod enc Try.prog W 0 (fun _ => true) true 22 v d p) :
    ∃ a len cap, v = .slice a len cap ∧ (len = 0 ∨ ∃ b off l, a = some ⟨b, off, none⟩ ∧ l.length = len ∧ CandsAt W b off l ∧ b < W.heap.size) := by
  obtain ⟨a0, len0, cap0, rfl⟩ := okWide_slice Try.underlying22 hv
  refine ⟨a0, len0, cap0, rfl, ?_⟩
  obtain ⟨fuel, hf⟩ := h
  rcases open_slice Try.underlying22 hf with ⟨h0, _⟩ | ⟨a, len, cap, m, n, D, Pl, hcs, hb, hl, hm, hmm, _, hx⟩
  · simp [Value.cells] at h0
    exact .inl h0.2.1
  · simp [Value.cells] at hcs
    obtain ⟨rfl, rfl, rfl⟩ := hcs
    simp only [if_true] at hmm
    subst hmm
    rcases Nat.eq_zero_or_pos len0 with hz | hz
    · exact .inl hz
    right
    have each : ∀ i, i < m → ∃ x : Int × Int × Int, W.cell? (a.add (i * 3)) = some (.int .i64 x.1) ∧ W.cell? (a.add (i * 3 + 1)) = some (.int .i64 x.2.1) ∧ W.cell? (a.add (i * 3 + 2)) = some (.int .i64 x.2.2) := by
      intro i hi
      obtain ⟨cs', h1, h2⟩ := hx i hi
      rw [cellsOf32] at h1
      obtain ⟨_, hlen, hcell⟩ := World.cells?_some h1
      obtain ⟨y0, y1, y2, k, _, _, g0, g1, g2⟩ := trod_struct3 Try.underlying32 h2
      match cs', hlen with
      | [c0, c1, c2], _ =>
        simp [cellsOf2, cellsOf3] at g0 g1 g2
        obtain ⟨z0, e0, _, _⟩ := DataW.trod_int Try.underlying2 g0
        obtain ⟨z1, e1, _, _⟩ := DataW.trod_int Try.underlying2 g1
        obtain ⟨z2, e2, _, _⟩ := DataW.trod_int Try.underlying3 g2
        simp at e0 e1 e2
        subst e0 e1 e2
        have q0 := hcell 0 (by omega)
        have q1 := hcell 1 (by omega)
        have q2 := hcell 2 (by omega)
        rw [add_add] at q0 q1 q2
        exact ⟨(z0, z1, z2), by simpa using q0, by simpa using q1, by simpa using q2⟩
    obtain ⟨q, hq⟩ := choose_lt each
    obtain ⟨b, off, spot⟩ := a
    have hspot : spot = none := by simpa [Addr.add] using World.cell?_spot (hq 0 (by omega)).1
    subst hspot
    have hcd : ∀ i, i < len0 → cd ((List.range len0).map fun i => (⟨(q i).1, (q i).2.1, (q i).2.2⟩ : Cd)) i = ⟨(q i).1, (q i).2.1, (q i).2.2⟩ := fun i hi => by
      simp [cd, List.getD, hi]
    refine ⟨b, off, (List.range len0).map fun i => ⟨(q i).1, (q i).2.1, (q i).2.2⟩, rfl, by simp, fun j hj => ?_, ?_⟩
    · have hj' : j < len0 := by simpa using hj
      rw [hcd j hj']
      have := hq j (by omega)
      simp only [add_plain] at this
      exact this
    · have := cell_lt (hq 0 (by omega)).1
      simpa [Addr.add] using this
end Go.Proofs.Qxb6600132a
