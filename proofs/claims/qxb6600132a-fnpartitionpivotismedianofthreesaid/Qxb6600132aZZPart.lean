/-
  Seat b6600132a: ZZPartition, walked.
-/
import Derived.Test.Qxb6600132aConv
namespace Go.Proofs.Qxb6600132a
open Go.RowKit

/-- What ZZPartition leaves, and what it answers. -/
def ZZPost (w : World) (M last : Nat) (l : List Cd) (e : Ending) (w' : World) : Prop :=
  ∃ (pv : Cd) (L : List Cd), L = med3 l (last / 2) last ∧ pv = cd L last ∧ e = .returned (.int .i64 ((partTo L pv last).2 : Nat)) ∧ Below M w w' ∧ Row3 w' M 30 (swp (partTo L pv last).1 (partTo L pv last).2 last) ∧ M < w'.heap.size

/-- The first k of l laid over m. -/
def over3 (l m : List Cd) (k : Nat) : List Cd := l.take k ++ m.drop k
theorem over3_zero (l m : List Cd) : over3 l m 0 = m := by simp [over3]
theorem over3_all (l m : List Cd) (h : l.length = m.length) : over3 l m m.length = l := by simp [over3, ← h]
theorem over3_length (l m : List Cd) (k : Nat) (h : l.length = m.length) : (over3 l m k).length = m.length := by simp [over3, h]; omega
theorem over3_succ (l m : List Cd) (k : Nat) (h : l.length = m.length) (hk : k < m.length) : over3 l m (k + 1) = (over3 l m k).set k (cd l k) := by
  apply List.ext_getElem?
  intro j
  have hm : min k l.length = k := by omega
  have hm1 : min (k + 1) l.length = k + 1 := by omega
  have hkl : k < l.length := by omega
  simp only [over3, List.getElem?_set, List.getElem?_append, List.length_take, hm, hm1, List.length_append, List.length_drop]
  by_cases e : k = j
  · subst e
    simp [hkl, cd, List.getD]
    omega
  · simp only [e, if_false]
    by_cases hj : j < k
    · have : j < k + 1 := by omega
      simp [hj, this]
    · have h2 : ¬ j < k + 1 := by omega
      simp only [hj, h2, if_false, List.getElem?_drop]
      congr 1
      omega

set_option maxRecDepth 100000 in
set_option maxHeartbeats 2000000 in
theorem zzPartition_any (M last : Nat) (l : List Cd) (w : World) (hrow : Row3 w M 30 l) (hl : l.length = last + 1) (hm : last < 16384) (hM : M < w.heap.size) :
    Calls Try.prog 14 #[.slice (some ⟨M, 0, none⟩) (last + 1) (last + 1)] w (ZZPost w M last l) := by
  obtain ⟨i9, hi, hz, hsz, hby⟩ := info44
  have hmk : (Instr.makeSlice 42 (.int .i64 ((last : Int) + 1)) (.int .i64 ((last : Int) + 1))).run Try.prog w = .ok (.slice (some ⟨w.heap.size, 0, none⟩) (last + 1) (last + 1)) (w.alloc (.cells (madeCells dfl.v.cells ((last + 1) * 3)) 44)) := by
    have := run_make (P := Try.prog) w 42 44 i9 _ Try.underlying42 hi hz .i64 .i64 ((last : Int) + 1) ((last : Int) + 1) (by omega) (by omega) (by rw [hby]; omega) (by omega)
    rw [hsz, show ((last : Int) + 1).toNat = last + 1 from by omega] at this
    exact this
  clear hi hz hsz hby
  have HZ : Hid (upTo l 0 = List.replicate (last + 1) dfl ∧ upTo l (last + 1) = l) := by
    have h1 := upTo_zero l
    have h2 := upTo_all l
    rw [hl] at h1 h2
    exact ⟨h1, h2⟩
  have HNEW : Hid (Row3 (w.alloc (.cells (madeCells dfl.v.cells ((last + 1) * 3)) 44)) w.heap.size 44 (List.replicate (last + 1) dfl)) := row3_new w 44 (last + 1)
  have HUL : Hid (∀ k, (upTo l k).length = last + 1) := fun k => by rw [upTo_length, hl]
  have HN : Hid (l.length = last + 1) := hl
  have HIN : Hid (Row3 w M 30 l) := hrow
  clear hrow hl
  generalize hmc : madeCells dfl.v.cells ((last + 1) * 3) = mc at *
  clear hmc
  go_enter Try.func14, Try.ntmps14
  go_wp2
  go_loopw [4] (fun x w' => ∃ k : Nat, k ≤ last + 1 ∧ x = .int .i64 k ∧ Below w.heap.size w w' ∧ Row3 w' w.heap.size 44 (upTo l k) ∧ w'.heap.size = w.heap.size + 1) (fun x _ => last + 1 - (intOf x).toNat)
  case atStart => exact ⟨0, Nat.zero_le _, rfl, (Below.refl _ _).alloc (Nat.le_refl _) _, by rw [HZ.out.1]; exact HNEW.out, by simp⟩
  case round =>
    obtain ⟨k, hk, rfl, hbel, hrow, hsize⟩ := hrel
    have HB : Hid (Below w.heap.size w wr) := hbel
    have HR : Hid (Row3 wr w.heap.size 44 (upTo l k)) := hrow
    have HSZ : Hid (wr.heap.size = w.heap.size + 1) := hsize
    clear hbel hrow HNEW hsize
    by_cases hlt : k < last + 1
    · obtain ⟨c0, c1, c2⟩ := Row3.at (RowIs.below HIN.out HB.out hM) k (by rw [HN.out]; exact hlt)
      have HSU : Hid (upTo l (k + 1) = (upTo l k).set k (cd l k)) := upTo_succ l k (by rw [HN.out]; exact hlt)
      obtain ⟨d0, d1, d2⟩ := HR.out.at k (by rw [HUL.out k]; exact hlt)
      have f0 := row3_fz HR.out (k * 3)
      have f1 := row3_fz HR.out (k * 3 + 1)
      have f2 := row3_fz HR.out (k * 3 + 2)
      generalize cd l k = x at *
      generalize cd (upTo l k) k = y at *
      have j1 : (k : Int) < (last : Int) + 1 := by omega
      have j2 : (0 : Int) ≤ (k : Int) := by omega
      go_wp2
      go_region
      go_wp2
      refine ⟨⟨k + 1, by omega, by go_num, (below_put3 HB.out w.heap.size (k * 3) x (Nat.le_refl _)).drew, ?_, by simp [HSZ.out]⟩, by simp [intOf]; omega⟩
      rw [HSU.out]
      exact RowIs.drew1 (HR.out.put k (k * 3) rfl x)
    · obtain rfl : k = last + 1 := by omega
      have HR' : Hid (Row3 wr w.heap.size 44 l) := by
        have := HR.out
        rwa [HZ.out.2] at this
      clear HR
      go_wp2_with fail
      refine (partition_any w.heap.size last l _ HR'.out HN.out hm (by rw [HSZ.out]; omega)).mono ?_
      rintro e w2 ⟨pv, L, hL, hpv, rfl, hb2, hr2⟩
      have hFl : (swp (partTo L pv last).1 (partTo L pv last).2 last).length = last + 1 := by rw [swp_length, partTo_length, hL, med3_length, HN.out]
      have HFIN : Hid (∀ W, Below M w W → Row3 W M 30 (swp (partTo L pv last).1 (partTo L pv last).2 last) → M < W.heap.size → ZZPost w M last l (.returned (.int .i64 ((partTo L pv last).2 : Nat))) W) := fun W h1 h2 h3 => ⟨pv, L, hL, hpv, rfl, h1, h2, h3⟩
      generalize swp (partTo L pv last).1 (partTo L pv last).2 last = F at *
      generalize (partTo L pv last).2 = p at *
      have HFL : Hid (F.length = last + 1) := hFl
      have HRC : Hid (Row3 w2 w.heap.size 44 F) := hr2
      have HRM : Hid (Row3 w2 M 30 l) := RowIs.below (RowIs.below HIN.out HB.out hM) hb2 hM
      have HB2 : Hid (Below M w w2) := (HB.out.mono (Nat.le_of_lt hM)).trans (hb2.mono (Nat.le_of_lt hM))
      have hz2 : w.heap.size < w2.heap.size := by have := hb2.size; rw [HSZ.out] at this; omega
      have HFM : Hid (F.length = l.length) := by unfold Hid; rw [HFL.out, HN.out]
      clear hL hpv hb2 hr2 hFl HB HR' HSZ hk hlt hmk HZ HUL
      go_wp2
      go_loopw [6] (fun x w' => ∃ k : Nat, k ≤ last + 1 ∧ x = .int .i64 k ∧ Below M w w' ∧ Row3 w' M 30 (over3 F l k) ∧ Row3 w' w.heap.size 44 F ∧ w.heap.size < w'.heap.size) (fun x _ => last + 1 - (intOf x).toNat)
      case atStart => exact ⟨0, Nat.zero_le _, rfl, HB2.out, by rw [over3_zero]; exact HRM.out, HRC.out, hz2⟩
      case round =>
        obtain ⟨k, hk, rfl, hbel, hrM, hrC, hsize⟩ := hrel
        have HB3 : Hid (Below M w wr) := hbel
        have HR3 : Hid (Row3 wr M 30 (over3 F l k)) := hrM
        have HC3 : Hid (Row3 wr w.heap.size 44 F) := hrC
        clear hbel hrM hrC
        by_cases hlt : k < last + 1
        · obtain ⟨c0, c1, c2⟩ := Row3.at HC3.out k (by rw [HFL.out]; exact hlt)
          have HSU : Hid (over3 F l (k + 1) = (over3 F l k).set k (cd F k)) := over3_succ F l k HFM.out (by rw [HN.out]; exact hlt)
          obtain ⟨d0, d1, d2⟩ := HR3.out.at k (by rw [over3_length F l k HFM.out, HN.out]; exact hlt)
          have f0 := row3_fz HR3.out (k * 3)
          have f1 := row3_fz HR3.out (k * 3 + 1)
          have f2 := row3_fz HR3.out (k * 3 + 2)
          generalize cd F k = x at *
          generalize cd (over3 F l k) k = y at *
          have j1 : (k : Int) < (last : Int) + 1 := by omega
          have j2 : (0 : Int) ≤ (k : Int) := by omega
          go_wp2
          go_region
          go_wp2
          refine ⟨⟨k + 1, by omega, by go_num, (below_put3 HB3.out M (k * 3) x (Nat.le_refl _)).drew, ?_, ?_, by simpa using hsize⟩, by simp [intOf]; omega⟩
          · rw [HSU.out]
            exact RowIs.drew1 (HR3.out.put k (k * 3) rfl x)
          · exact RowIs.drew1 (((RowIs.other HC3.out ⟨M, k * 3, none⟩ _ (by simp; omega)).other ⟨M, k * 3 + 1, none⟩ _ (by simp; omega)).other ⟨M, k * 3 + 2, none⟩ _ (by simp; omega))
        · obtain rfl : k = last + 1 := by omega
          have HR4 : Hid (Row3 wr M 30 F) := by
            have := HR3.out
            rwa [← HN.out, over3_all F l HFM.out] at this
          clear HR3
          go_wp2
          go_ret
          exact HFIN.out _ HB3.out HR4.out (by omega)
end Go.Proofs.Qxb6600132a
