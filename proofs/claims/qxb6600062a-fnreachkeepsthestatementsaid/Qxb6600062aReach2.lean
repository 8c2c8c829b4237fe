/-
  Seat b6600062a: rows of cells; cloneStrings, walked.
-/
import Derived.Test.Qxb6600062aReach1
import Derived.WalkKit
import Derived.RowKit3
import Derived.Below
import Derived.Lib.SliceRun
import Derived.Lib.Builder
namespace Go.Proofs.Qxb6600062a
open Go.RowKit

/-- Block N is a row of cells of its own: exactly cs, of type e, nothing frozen. -/
def RowIs (w : World) (N : Nat) (e : TypeId) (cs : List Value) : Prop := w.heap[N]? = some (.cells cs.toArray e (0, 0))
theorem RowIs.cell {w : World} {N : Nat} {e : TypeId} {cs : List Value} (h : RowIs w N e cs) (j : Nat) : w.cell? ⟨N, j, none⟩ = cs[j]? := by
  rw [Lib.cell_of_heap h]; simp
theorem RowIs.frozen {w : World} {N : Nat} {e : TypeId} {cs : List Value} (h : RowIs w N e cs) (j : Nat) : w.frozen? ⟨N, j, none⟩ = false := Lib.frozen_of_heap h j
theorem RowIs.set {w : World} {N : Nat} {e : TypeId} {cs : List Value} (h : RowIs w N e cs) (j : Nat) (v : Value) : RowIs (w.setCell ⟨N, j, none⟩ v) N e (cs.set j v) := by
  unfold RowIs
  rw [heap_setCell_same w N j _ e v h]
  simp
theorem RowIs.other {w : World} {N : Nat} {e : TypeId} {cs : List Value} (h : RowIs w N e cs) (a : Addr) (v : Value) (hne : N ≠ a.block) : RowIs (w.setCell a v) N e cs := by
  unfold RowIs
  rw [Below.heap_setCell _ _ _ _ hne]
  exact h
theorem RowIs.below {w w' : World} {N B : Nat} {e : TypeId} {cs : List Value} (h : RowIs w N e cs) (hb : Below B w w') (hN : N < B) : RowIs w' N e cs := by
  unfold RowIs
  rw [hb.block N hN]
  exact h

theorem info_of {P : Program} {t : TypeId} {z : Value} {n b : Nat} (h : (P.info? t).map (fun i => (i.zero, i.size, i.bytes)) = some (some z, n, b)) :
    ∃ i, P.info? t = some i ∧ i.zero = some z ∧ i.size = n ∧ i.bytes = b := by
  cases hi : P.info? t with
  | none => rw [hi] at h; cases h
  | some i =>
    rw [hi] at h
    simp only [Option.map_some, Option.some.injEq, Prod.mk.injEq] at h
    exact ⟨i, rfl, h.1, h.2.1, h.2.2⟩
theorem info9 : ∃ i, Try.prog.info? 9 = some i ∧ i.zero = some (.string ⟨#[]⟩) ∧ i.size = 1 ∧ i.bytes = 16 := info_of (by kernel_rfl)
theorem info5 : ∃ i, Try.prog.info? 5 = some i ∧ i.zero = some (.int .u8 0) ∧ i.size = 1 ∧ i.bytes = 1 := info_of (by kernel_rfl)

def cloneTo (ss : List ByteArray) (k : Nat) : List Value := (ss.take k).map Value.string ++ List.replicate (ss.length - k) (.string ⟨#[]⟩)
theorem cloneTo_all (ss : List ByteArray) : cloneTo ss ss.length = ss.map Value.string := by simp [cloneTo]
theorem cloneTo_zero (ss : List ByteArray) : cloneTo ss 0 = List.replicate ss.length (.string ⟨#[]⟩) := by simp [cloneTo]
theorem cloneTo_at (ss : List ByteArray) (k : Nat) (h : k < ss.length) : (cloneTo ss k)[k]? = some (.string ⟨#[]⟩) := by
  have hm : min k ss.length = k := by omega
  simp only [cloneTo, List.getElem?_append, List.length_map, List.length_take, hm, Nat.lt_irrefl, if_false, Nat.sub_self, List.getElem?_replicate]
  rw [if_pos (by omega)]
theorem cloneTo_succ (ss : List ByteArray) (k : Nat) (h : k < ss.length) : cloneTo ss (k + 1) = (cloneTo ss k).set k (.string (ss.getD k ByteArray.empty)) := by
  apply List.ext_getElem?
  intro j
  have hm : min k ss.length = k := by omega
  have hm1 : min (k + 1) ss.length = k + 1 := by omega
  simp only [cloneTo, List.getElem?_set, List.getElem?_append, List.length_map, List.length_take, hm, hm1, List.length_append, List.length_replicate]
  by_cases e : k = j
  · subst e
    simp [h]
    omega
  · simp only [e, if_false]
    by_cases hj : j < k
    · have : j < k + 1 := by omega
      simp [hj, this]
    · have h2 : ¬ j < k + 1 := by omega
      simp only [hj, h2, if_false, List.getElem?_replicate]
      have : (j - (k + 1) < ss.length - (k + 1)) ↔ (j - k < ss.length - k) := by omega
      simp only [this]

theorem clone_nil (w : World) : Calls Try.prog 23 #[.slice none 0 0] w fun e w' => e = .returned (.slice none 0 0) ∧ w' = w := by
  have hq := fun wx => Lib.run_eql_slice_nil (P := Try.prog) wx 29 9 none 0 0 0 0 Try.underlying29
  go_enter Try.func23, Try.ntmps23
  go_wp2
  go_ret
  exact ⟨rfl, rfl⟩

set_option maxHeartbeats 1000000 in
theorem clone_some (b off cap : Nat) (ss : List ByteArray) (w : World) (hl : ss.length ≤ 1048576) (hat : StrsAt w b off ss) (hb : b < w.heap.size) :
    Calls Try.prog 23 #[.slice (some ⟨b, off, none⟩) ss.length cap] w fun e w' =>
      e = .returned (.slice (some ⟨w.heap.size, 0, none⟩) ss.length ss.length) ∧ Below w.heap.size w w' ∧ RowIs w' w.heap.size 9 (ss.map Value.string) ∧ w'.heap.size = w.heap.size + 1 := by
  have hq := fun wx => Lib.run_eql_slice_nil (P := Try.prog) wx 29 9 (some ⟨b, off, none⟩) ss.length cap 0 0 Try.underlying29
  obtain ⟨i9, hi, hz, hsz, hby⟩ := info9
  have hmk : (Instr.makeSlice 29 (.int .i64 (ss.length : Int)) (.int .i64 (ss.length : Int))).run Try.prog w = .ok (.slice (some ⟨w.heap.size, 0, none⟩) ss.length ss.length) (w.alloc (.cells (madeCells #[.string ⟨#[]⟩] ss.length) 9)) := by
    have := run_make (P := Try.prog) w 29 9 i9 _ Try.underlying29 hi hz .i64 .i64 (ss.length : Int) (ss.length : Int) (by omega) (by omega) (by rw [hby]; omega) (by omega)
    rw [hsz] at this
    simpa [Value.cells] using this
  clear hi hz hsz hby
  have HCL : Hid (cloneTo ss ss.length = ss.map Value.string) := cloneTo_all ss
  generalize hn : ss.length = len at *
  have HN : Hid (ss.length = len) := hn
  clear hn
  have HAT : Hid (StrsAt w b off ss) := hat
  clear hat
  go_enter Try.func23, Try.ntmps23
  go_wp2
  go_loopw [4] (fun x w' => ∃ k : Nat, k ≤ len ∧ x = .int .i64 k ∧ Below w.heap.size w w' ∧ RowIs w' w.heap.size 9 (cloneTo ss k) ∧ w'.heap.size = w.heap.size + 1) (fun x _ => len - (intOf x).toNat)
  case atStart =>
    refine ⟨0, Nat.zero_le _, rfl, (Below.refl _ _).alloc (Nat.le_refl _) _, ?_, by simp⟩
    unfold RowIs
    rw [cloneTo_zero, HN.out, ← toList_madeCells_one]
    show (w.heap.push _)[w.heap.size]? = _
    simp
  case round =>
    obtain ⟨k, hk, rfl, hbel, hrow, hsize⟩ := hrel
    have HB : Hid (Below w.heap.size w wr) := hbel
    have HR : Hid (RowIs wr w.heap.size 9 (cloneTo ss k)) := hrow
    have HS : Hid (wr.heap.size = w.heap.size + 1) := hsize
    clear hbel hrow hsize
    by_cases hlt : k < len
    · have hc : wr.cell? ⟨b, off + k, none⟩ = some (.string (ss.getD k ByteArray.empty)) := by
        rw [HB.out.cell (p := ⟨b, off + k, none⟩) hb]
        exact HAT.out k (by rw [HN.out]; exact hlt)
      have hc2 : wr.cell? ⟨w.heap.size, k, none⟩ = some (.string ⟨#[]⟩) := by
        rw [HR.out.cell, cloneTo_at _ _ (by rw [HN.out]; exact hlt)]
      have hf2 : wr.frozen? ⟨w.heap.size, k, none⟩ = false := HR.out.frozen k
      have hsu := cloneTo_succ ss k (by rw [HN.out]; exact hlt)
      generalize ss.getD k ByteArray.empty = sk at hc hsu
      have HSU : Hid (cloneTo ss (k + 1) = (cloneTo ss k).set k (.string sk)) := hsu
      clear hsu
      go_wp2
      refine ⟨⟨k + 1, by omega, by go_num, HB.out.setCell (Nat.le_refl _) _, ?_, by simp [HS.out]⟩, by simp [intOf]; omega⟩
      rw [HSU.out]
      exact HR.out.set k _
    · obtain rfl : k = len := by omega
      go_wp2
      go_ret
      exact ⟨rfl, HB.out, by rw [← HCL.out]; exact HR.out, HS.out⟩

set_option maxHeartbeats 1000000 in
theorem clone_empty (a : Addr) (cap : Nat) (w : World) :
    Calls Try.prog 23 #[.slice (some a) 0 cap] w fun e w' =>
      e = .returned (.slice (some ⟨w.heap.size, 0, none⟩) 0 0) ∧ Below w.heap.size w w' ∧ RowIs w' w.heap.size 9 [] ∧ w'.heap.size = w.heap.size + 1 := by
  have hq := fun wx => Lib.run_eql_slice_nil (P := Try.prog) wx 29 9 (some a) 0 cap 0 0 Try.underlying29
  obtain ⟨i9, hi, hz, hsz, hby⟩ := info9
  have hmk : (Instr.makeSlice 29 (.int .i64 0) (.int .i64 0)).run Try.prog w = .ok (.slice (some ⟨w.heap.size, 0, none⟩) 0 0) (w.alloc (.cells #[] 9)) := by
    have := run_make (P := Try.prog) w 29 9 i9 _ Try.underlying29 hi hz .i64 .i64 0 0 (by omega) (by omega) (by rw [hby]; omega) (by omega)
    rw [hsz] at this
    simpa [Value.cells, madeCells, Array.range_zero'] using this
  clear hi hz hsz hby
  go_enter Try.func23, Try.ntmps23
  go_wp2
  go_loop [4] (fun x => x = .int .i64 0) (fun _ => 0)
  case atStart => rfl
  case round =>
    subst hrel
    go_wp2
    go_ret
    refine ⟨rfl, (Below.refl _ _).alloc (Nat.le_refl _) _, ?_, by simp⟩
    show (w.heap.push _)[w.heap.size]? = _
    simp
end Go.Proofs.Qxb6600062a
