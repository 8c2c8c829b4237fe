/-
  Seat b6600132a: cloneCands and candsOf, walked.
-/
import Derived.Test.Qxb6600132aPart
import Derived.Lib.SliceRun
namespace Go.Proofs.Qxb6600132a
open Go.RowKit

theorem info_of {P : Program} {t : TypeId} {z : Value} {n b : Nat} (h : (P.info? t).map (fun i => (i.zero, i.size, i.bytes)) = some (some z, n, b)) :
    ∃ i, P.info? t = some i ∧ i.zero = some z ∧ i.size = n ∧ i.bytes = b := by
  cases hi : P.info? t with
  | none => rw [hi] at h; cases h
  | some i =>
    rw [hi] at h
    simp only [Option.map_some, Option.some.injEq, Prod.mk.injEq] at h
    exact ⟨i, rfl, h.1, h.2.1, h.2.2⟩
theorem info32 : ∃ i, Try.prog.info? 32 = some i ∧ i.zero = some dfl.v ∧ i.size = 3 ∧ i.bytes = 24 := info_of (by kernel_rfl)
theorem info30 : ∃ i, Try.prog.info? 30 = some i ∧ i.zero = some dfl.v ∧ i.size = 3 ∧ i.bytes = 24 := info_of (by kernel_rfl)
theorem info44 : ∃ i, Try.prog.info? 44 = some i ∧ i.zero = some dfl.v ∧ i.size = 3 ∧ i.bytes = 24 := info_of (by kernel_rfl)

theorem flat_zero (n : Nat) : (List.replicate n dfl).flatMap Cd.cells = List.replicate (n * 3) (.int .i64 0) := by
  induction n with
  | zero => rfl
  | succ n ih =>
    rw [List.replicate_succ, List.flatMap_cons, ih, show (n + 1) * 3 = 3 + n * 3 from by omega, ← List.replicate_append_replicate]
    rfl
theorem made_zero (n : Nat) : (madeCells dfl.v.cells (n * 3)).toList = (List.replicate n dfl).flatMap Cd.cells := by
  rw [flat_zero]
  apply List.ext_getElem?
  intro j
  have h3 : j % 3 = 0 ∨ j % 3 = 1 ∨ j % 3 = 2 := by omega
  by_cases hj : j < n * 3
  · rcases h3 with h | h | h <;> simp [madeCells, hj, Value.cells, Cd.v, dfl, h]
  · simp [madeCells, hj]
/-- A new row of n zero candidates. -/
theorem row3_new (w : World) (e : TypeId) (n : Nat) : Row3 (w.alloc (.cells (madeCells dfl.v.cells (n * 3)) e)) w.heap.size e (List.replicate n dfl) := by
  unfold Row3 RowIs
  rw [← made_zero]
  show (w.heap.push _)[w.heap.size]? = _
  simp

/-- The first k copied, the rest zero. -/
def upTo (l : List Cd) (k : Nat) : List Cd := l.take k ++ List.replicate (l.length - k) dfl
theorem upTo_zero (l : List Cd) : upTo l 0 = List.replicate l.length dfl := by simp [upTo]
theorem upTo_all (l : List Cd) : upTo l l.length = l := by simp [upTo]
theorem upTo_length (l : List Cd) (k : Nat) : (upTo l k).length = l.length := by simp [upTo]; omega
theorem upTo_succ (l : List Cd) (k : Nat) (h : k < l.length) : upTo l (k + 1) = (upTo l k).set k (cd l k) := by
  apply List.ext_getElem?
  intro j
  have hm : min k l.length = k := by omega
  have hm1 : min (k + 1) l.length = k + 1 := by omega
  simp only [upTo, List.getElem?_set, List.getElem?_append, List.length_take, hm, hm1, List.length_append, List.length_replicate]
  by_cases e : k = j
  · subst e
    simp [h, cd, List.getD]
    omega
  · simp only [e, if_false]
    by_cases hj : j < k
    · have : j < k + 1 := by omega
      simp [hj, this]
    · have h2 : ¬ j < k + 1 := by omega
      simp only [hj, h2, if_false, List.getElem?_replicate]
      have : (j - (k + 1) < l.length - (k + 1)) ↔ (j - k < l.length - k) := by omega
      simp only [this]

/-- A slice of candidates that came in. -/
def CandsAt (w : World) (b off : Nat) (l : List Cd) : Prop :=
  ∀ j, j < l.length → w.cell? ⟨b, off + j * 3, none⟩ = some (.int .i64 (cd l j).c) ∧ w.cell? ⟨b, off + j * 3 + 1, none⟩ = some (.int .i64 (cd l j).p) ∧ w.cell? ⟨b, off + j * 3 + 2, none⟩ = some (.int .i64 (cd l j).a)

theorem row3_fz {w : World} {N : Nat} {e : TypeId} {l : List Cd} (h : Row3 w N e l) (o : Nat) : w.frozen? ⟨N, o, none⟩ = false := RowIs.frozen h o

set_option maxRecDepth 100000 in
set_option maxHeartbeats 1000000 in
theorem clone_any (b off cap : Nat) (l : List Cd) (w : World) (hl : l.length ≤ 16384) (hat : CandsAt w b off l) (hb : b < w.heap.size) :
    Calls Try.prog 12 #[.slice (some ⟨b, off, none⟩) l.length cap] w fun e w' =>
      e = .returned (.slice (some ⟨w.heap.size, 0, none⟩) l.length l.length) ∧ Below w.heap.size w w' ∧ Row3 w' w.heap.size 32 l ∧ w'.heap.size = w.heap.size + 1 := by
  have hq := fun wx => Lib.run_eql_slice_nil (P := Try.prog) wx 22 32 (some ⟨b, off, none⟩) l.length cap 0 0 Try.underlying22
  obtain ⟨i9, hi, hz, hsz, hby⟩ := info32
  have hmk : (Instr.makeSlice 22 (.int .i64 (l.length : Int)) (.int .i64 (l.length : Int))).run Try.prog w = .ok (.slice (some ⟨w.heap.size, 0, none⟩) l.length l.length) (w.alloc (.cells (madeCells dfl.v.cells (l.length * 3)) 32)) := by
    have := run_make (P := Try.prog) w 22 32 i9 _ Try.underlying22 hi hz .i64 .i64 (l.length : Int) (l.length : Int) (by omega) (by omega) (by rw [hby]; omega) (by omega)
    rw [hsz] at this
    simpa using this
  clear hi hz hsz hby
  have HZ : Hid (upTo l 0 = List.replicate l.length dfl ∧ upTo l l.length = l) := ⟨upTo_zero l, upTo_all l⟩
  have HNEW : Hid (Row3 (w.alloc (.cells (madeCells dfl.v.cells (l.length * 3)) 32)) w.heap.size 32 (List.replicate l.length dfl)) := row3_new w 32 l.length
  have HUL : Hid (∀ k, (upTo l k).length = l.length) := upTo_length l
  generalize hn : l.length = len at *
  have HN : Hid (l.length = len) := hn
  clear hn
  have HAT : Hid (CandsAt w b off l) := hat
  clear hat
  generalize hmc : madeCells dfl.v.cells (len * 3) = mc at *
  clear hmc
  go_enter Try.func12, Try.ntmps12
  go_wp2
  go_loopw [4] (fun x w' => ∃ k : Nat, k ≤ len ∧ x = .int .i64 k ∧ Below w.heap.size w w' ∧ Row3 w' w.heap.size 32 (upTo l k) ∧ w'.heap.size = w.heap.size + 1) (fun x _ => len - (intOf x).toNat)
  case atStart => exact ⟨0, Nat.zero_le _, rfl, (Below.refl _ _).alloc (Nat.le_refl _) _, by rw [HZ.out.1]; exact HNEW.out, by simp⟩
  case round =>
    obtain ⟨k, hk, rfl, hbel, hrow, hsize⟩ := hrel
    have HB : Hid (Below w.heap.size w wr) := hbel
    have HR : Hid (Row3 wr w.heap.size 32 (upTo l k)) := hrow
    have HS : Hid (wr.heap.size = w.heap.size + 1) := hsize
    clear hbel hrow hsize HNEW
    by_cases hlt : k < len
    · obtain ⟨p0, p1, p2⟩ := HAT.out k (by rw [HN.out]; exact hlt)
      have c0 : wr.cell? ⟨b, off + k * 3, none⟩ = some (.int .i64 (cd l k).c) := by rw [HB.out.cell (p := ⟨b, off + k * 3, none⟩) hb]; exact p0
      have c1 : wr.cell? ⟨b, off + k * 3 + 1, none⟩ = some (.int .i64 (cd l k).p) := by rw [HB.out.cell (p := ⟨b, off + k * 3 + 1, none⟩) hb]; exact p1
      have c2 : wr.cell? ⟨b, off + k * 3 + 2, none⟩ = some (.int .i64 (cd l k).a) := by rw [HB.out.cell (p := ⟨b, off + k * 3 + 2, none⟩) hb]; exact p2
      obtain ⟨d0, d1, d2⟩ := HR.out.at k (by rw [HUL.out k]; exact hlt)
      have f0 := row3_fz HR.out (k * 3)
      have f1 := row3_fz HR.out (k * 3 + 1)
      have f2 := row3_fz HR.out (k * 3 + 2)
      have HSU : Hid (upTo l (k + 1) = (upTo l k).set k (cd l k)) := upTo_succ l k (by rw [HN.out]; exact hlt)
      clear p0 p1 p2
      generalize cd l k = x at *
      generalize cd (upTo l k) k = y at *
      go_wp2
      refine ⟨⟨k + 1, by omega, by go_num, below_put3 HB.out w.heap.size (k * 3) x (Nat.le_refl _), ?_, by simp [HS.out]⟩, by simp [intOf]; omega⟩
      rw [HSU.out]
      exact HR.out.put k (k * 3) rfl x
    · obtain rfl : k = len := by omega
      go_wp2
      go_ret
      refine ⟨rfl, HB.out, ?_, HS.out⟩
      have := HR.out
      rwa [HZ.out.2] at this

set_option maxRecDepth 100000 in
set_option maxHeartbeats 1000000 in
theorem candsOf_any (N : Nat) (l : List Cd) (w : World) (hl : l.length ≤ 16384) (hrow : Row3 w N 32 l) (hN : N < w.heap.size) :
    Calls Try.prog 13 #[.slice (some ⟨N, 0, none⟩) l.length l.length] w fun e w' =>
      e = .returned (.slice (some ⟨w.heap.size, 0, none⟩) l.length l.length) ∧ Below w.heap.size w w' ∧ Row3 w' w.heap.size 30 l ∧ w.heap.size < w'.heap.size := by
  obtain ⟨i9, hi, hz, hsz, hby⟩ := info30
  have hmk : (Instr.makeSlice 25 (.int .i64 (l.length : Int)) (.int .i64 (l.length : Int))).run Try.prog w = .ok (.slice (some ⟨w.heap.size, 0, none⟩) l.length l.length) (w.alloc (.cells (madeCells dfl.v.cells (l.length * 3)) 30)) := by
    have := run_make (P := Try.prog) w 25 30 i9 _ Try.underlying25 hi hz .i64 .i64 (l.length : Int) (l.length : Int) (by omega) (by omega) (by rw [hby]; omega) (by omega)
    rw [hsz] at this
    simpa using this
  clear hi hz hsz hby
  have HZ : Hid (upTo l 0 = List.replicate l.length dfl ∧ upTo l l.length = l) := ⟨upTo_zero l, upTo_all l⟩
  have HNEW : Hid (Row3 (w.alloc (.cells (madeCells dfl.v.cells (l.length * 3)) 30)) w.heap.size 30 (List.replicate l.length dfl)) := row3_new w 30 l.length
  have HUL : Hid (∀ k, (upTo l k).length = l.length) := upTo_length l
  generalize hn : l.length = len at *
  have HN : Hid (l.length = len) := hn
  clear hn
  have HIN : Hid (Row3 w N 32 l) := hrow
  clear hrow
  generalize hmc : madeCells dfl.v.cells (len * 3) = mc at *
  clear hmc
  go_enter Try.func13, Try.ntmps13
  go_wp2
  go_loopw [4] (fun x w' => ∃ k : Nat, k ≤ len ∧ x = .int .i64 k ∧ Below w.heap.size w w' ∧ Row3 w' w.heap.size 30 (upTo l k) ∧ w.heap.size < w'.heap.size) (fun x _ => len - (intOf x).toNat)
  case atStart => exact ⟨0, Nat.zero_le _, rfl, (Below.refl _ _).alloc (Nat.le_refl _) _, by rw [HZ.out.1]; exact HNEW.out, by simp⟩
  case round =>
    obtain ⟨k, hk, rfl, hbel, hrow, hsize⟩ := hrel
    have HB : Hid (Below w.heap.size w wr) := hbel
    have HR : Hid (Row3 wr w.heap.size 30 (upTo l k)) := hrow
    clear hbel hrow HNEW
    by_cases hlt : k < len
    · obtain ⟨c0, c1, c2⟩ := Row3.at (RowIs.below HIN.out HB.out hN) k (by rw [HN.out]; exact hlt)
      have HSU : Hid (upTo l (k + 1) = (upTo l k).set k (cd l k)) := upTo_succ l k (by rw [HN.out]; exact hlt)
      generalize cd l k = x at *
      go_wp2_with fail
      refine (candOf_any x _).mono ?_
      rintro e w1 ⟨rfl, hb⟩
      unfold Cd.v
      have HB1 : Hid (Below w.heap.size w w1) := HB.out.trans (hb.mono (Nat.le_of_lt hsize))
      have HR1 : Hid (Row3 w1 w.heap.size 30 (upTo l k)) := RowIs.below HR.out hb hsize
      have hs1 : w.heap.size < w1.heap.size := Nat.lt_of_lt_of_le hsize hb.size
      clear hb HB HR c0 c1 c2
      obtain ⟨d0, d1, d2⟩ := HR1.out.at k (by rw [HUL.out k]; exact hlt)
      have f0 := row3_fz HR1.out (k * 3)
      have f1 := row3_fz HR1.out (k * 3 + 1)
      have f2 := row3_fz HR1.out (k * 3 + 2)
      generalize cd (upTo l k) k = y at *
      go_wp2
      refine ⟨⟨k + 1, by omega, by go_num, below_put3 HB1.out w.heap.size (k * 3) x (Nat.le_refl _), ?_, by simpa using hs1⟩, by simp [intOf]; omega⟩
      rw [HSU.out]
      exact HR1.out.put k (k * 3) rfl x
    · obtain rfl : k = len := by omega
      go_wp2
      go_ret
      refine ⟨rfl, HB.out, ?_, hsize⟩
      have := HR.out
      rwa [HZ.out.2] at this
end Go.Proofs.Qxb6600132a
