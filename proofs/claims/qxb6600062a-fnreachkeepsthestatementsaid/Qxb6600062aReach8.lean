/-
  Seat b6600062a: sameBytes and FnReachKeepsTheStatement, walked.
-/
import Derived.Test.Qxb6600062aReach7
namespace Go.Proofs.Qxb6600062a
open Go.RowKit

/-- A slice of bytes that can be read: its cells from its head on are the bytes T. -/
def BytesAt (w : World) (a : Option Addr) (T : List UInt8) : Prop :=
  T = [] ∨ ∃ g, a = some ⟨g, 0, none⟩ ∧ g < w.heap.size ∧ ∀ j, j < T.length → w.cell? ⟨g, j, none⟩ = some (.int .u8 ((T.getD j 0).toNat : Int))
theorem BytesAt.of {w : World} {B c : Nat} {a : Option Addr} {T : List UInt8} (h : w.ownsRow B 5 1 (.slice a T.length c) T.length (Lib.byteCells T)) : BytesAt w a T := by
  rcases h.2 with ⟨hv, h0⟩ | ⟨g, cap, cur, hv, _⟩
  · exact .inl (List.length_eq_zero_iff.1 h0)
  · injection hv with h1 _ h3
    subst h1; subst h3
    refine .inr ⟨g, rfl, (h.lt g rfl).2, fun j hj => ?_⟩
    rw [h.cellAt j (by omega)]
    simp [Lib.byteCells, List.getD, hj]
theorem BytesAt.below {w w' : World} {a : Option Addr} {T : List UInt8} (h : BytesAt w a T) (hb : Below w.heap.size w w') : BytesAt w' a T := by
  rcases h with h | ⟨g, rfl, hg, hc⟩
  · exact .inl h
  · exact .inr ⟨g, rfl, Nat.lt_of_lt_of_le hg hb.size, fun j hj => by rw [hb.cell (p := ⟨g, j, none⟩) hg]; exact hc j hj⟩

theorem same_none (a1 a2 : Option Addr) (c1 c2 : Nat) (w : World) :
    Calls Try.prog 26 #[.slice a1 0 c1, .slice a2 0 c2] w fun e w' => e = .returned (.bool true) ∧ Below w.heap.size w w' := by
  go_enter Try.func26, Try.ntmps26
  go_wp2
  go_loop [5] (fun x => x = .int .i64 0) (fun _ => 0)
  case atStart => rfl
  case round =>
    subst hrel
    go_wp2
    go_ret
    exact ⟨rfl, Below.refl _ _⟩

set_option maxHeartbeats 1000000 in
theorem same_some (g1 g2 c1 c2 : Nat) (T : List UInt8) (w : World) (hT : T.length ≤ 4194304) (h1 : g1 < w.heap.size) (h2 : g2 < w.heap.size)
    (hc1 : ∀ j, j < T.length → w.cell? ⟨g1, j, none⟩ = some (.int .u8 ((T.getD j 0).toNat : Int))) (hc2 : ∀ j, j < T.length → w.cell? ⟨g2, j, none⟩ = some (.int .u8 ((T.getD j 0).toNat : Int))) :
    Calls Try.prog 26 #[.slice (some ⟨g1, 0, none⟩) T.length c1, .slice (some ⟨g2, 0, none⟩) T.length c2] w fun e w' => e = .returned (.bool true) ∧ Below w.heap.size w w' := by
  have HC1 : Hid (∀ j, j < T.length → w.cell? ⟨g1, j, none⟩ = some (.int .u8 ((T.getD j 0).toNat : Int))) := hc1
  have HC2 : Hid (∀ j, j < T.length → w.cell? ⟨g2, j, none⟩ = some (.int .u8 ((T.getD j 0).toNat : Int))) := hc2
  clear hc1 hc2
  generalize T.length = len at *
  go_enter Try.func26, Try.ntmps26
  go_wp2
  go_loopw [5] (fun x w' => ∃ k : Nat, k ≤ len ∧ x = .int .i64 k ∧ Below w.heap.size w w') (fun x _ => len - (intOf x).toNat)
  case atStart => exact ⟨0, Nat.zero_le _, rfl, Below.refl _ _⟩
  case round =>
    obtain ⟨k, hk, rfl, hb⟩ := hrel
    have HB : Hid (Below w.heap.size w wr) := hb
    clear hb
    by_cases hlt : k < len
    · have d1 : wr.cell? ⟨g1, k, none⟩ = some (.int .u8 ((T.getD k 0).toNat : Int)) := by rw [HB.out.cell (p := ⟨g1, k, none⟩) h1]; exact HC1.out k hlt
      have d2 : wr.cell? ⟨g2, k, none⟩ = some (.int .u8 ((T.getD k 0).toNat : Int)) := by rw [HB.out.cell (p := ⟨g2, k, none⟩) h2]; exact HC2.out k hlt
      have hltI : (k : Int) < (len : Int) := by omega
      generalize T.getD k 0 = x at *
      go_wp2
      go_quiet (fail)
      go_wp2
      exact ⟨⟨k + 1, by omega, by go_num, below_drewN HB.out _⟩, by simp [intOf]; omega⟩
    · go_wp2
      go_ret
      exact ⟨rfl, HB.out⟩

theorem same_any (a1 a2 : Option Addr) (c1 c2 : Nat) (T : List UInt8) (w : World) (hT : T.length ≤ 4194304) (h1 : BytesAt w a1 T) (h2 : BytesAt w a2 T) :
    Calls Try.prog 26 #[.slice a1 T.length c1, .slice a2 T.length c2] w fun e w' => e = .returned (.bool true) ∧ Below w.heap.size w w' := by
  rcases h1 with rfl | ⟨g1, rfl, hg1, hc1⟩
  · exact same_none a1 a2 c1 c2 w
  · rcases h2 with rfl | ⟨g2, rfl, hg2, hc2⟩
    · exact same_none _ a2 c1 c2 w
    · exact same_some g1 g2 c1 c2 T w hT hg1 hg2 hc1 hc2

theorem keeps_law {s : ByteArray} {base : Int} {after : ByteArray} {ss : List ByteArray} {taken i : Nat} {n : Int} {s' : ByteArray} {base' : Int} {after' : ByteArray} {taken' r : Nat}
    (h : Reached s base after ss taken i n s' base' after' taken' r) (hi : i ≤ s.size) (ht : taken ≤ ss.length) :
    taken ≤ taken' ∧ taken' ≤ ss.length ∧ r ≤ s'.size ∧ wrap64 (base' + r) = wrap64 (base + i) ∧ restL s' r after' ss taken' = restL s i after ss taken ∧ s'.size + after'.size ≤ s.size + after.size + sizes ss := by
  rcases h with ⟨_, rfl, rfl, rfl, rfl, rfl⟩ | ⟨_, rfl, h2, h3, h4, h5, h6⟩
  · exact ⟨Nat.le_refl _, ht, hi, rfl, rfl, by omega⟩
  · refine ⟨h3, h4, Nat.zero_le _, ?_, ?_, ?_⟩
    · rw [h2]; unfold wrap64; simp
    · rw [← h6]; simp [restL]
    · have e := congrArg List.length h6
      have hl := restL_len s i after ss taken
      have e1 : s'.data.toList.length = s'.size := by simp
      have e2 : after'.data.toList.length = after'.size := by simp
      simp only [List.length_append] at e
      omega

set_option maxRecDepth 100000 in
set_option maxHeartbeats 1000000 in
theorem walk6 (s : ByteArray) (base : Int) (after : ByteArray) (a : Option Addr) (len cap : Nat) (ss : List ByteArray) (taken i n : Int) (w : World)
    (hs : s.size ≤ maxLen) (ha : after.size ≤ maxLen) (hl : len ≤ maxLen) (hss : ∀ j, j < ss.length → (ss.getD j ByteArray.empty).size ≤ maxLen) (h : StrArg w a len cap ss)
    (_hn0 : -9223372036854775808 ≤ n) (hn2 : n ≤ 9223372036854775807) :
    Calls Try.prog 6 #[.string s, .int .i64 base, .string after, .slice a len cap, .int .i64 taken, .int .i64 i, .int .i64 n] w fun e w' => e = .returned (.bool true) ∧ Below w.heap.size w w' := by
  have hlen := h.len_eq
  have HLEN : Hid (len = ss.length) := hlen
  have HA : Hid (StrArg w a len cap ss) := h
  have HG := (guard21 s base after a len cap ss taken i n w hs ha hl hss h)
  unfold maxLen at hs ha hl
  clear hss h hlen
  go_enter Try.func6, Try.ntmps6
  go_wp2_with fail
  refine HG.mono ?_
  clear HG
  rintro e w' ⟨B, rfl, rfl, hB⟩
  cases B
  · clear hB
    go_wp2
    go_ret
    exact ⟨rfl, Below.refl _ _⟩
  have hle := hB rfl
  rw [← HLEN.out] at hle
  clear hB
  by_cases hl2 : len ≤ 65536
  rotate_left 1
  · go_wp2
    go_ret
    exact ⟨rfl, Below.refl _ _⟩
  go_wp2_with fail
  refine (bytesOf_all s after a len cap ss _ (by rw [← HLEN.out]; exact hle) HA.out).mono ?_
  rintro e w' ⟨t, rfl, rfl⟩
  by_cases ht : t ≤ 1048576
  rotate_left 1
  · go_wp2
    go_ret
    exact ⟨rfl, Below.refl _ _⟩
  by_cases hi0 : i < 0
  · go_wp2
    go_ret
    exact ⟨rfl, Below.refl _ _⟩
  by_cases hi1 : i ≤ s.size
  rotate_left 1
  · go_wp2
    go_ret
    exact ⟨rfl, Below.refl _ _⟩
  by_cases ht0 : taken < 0
  · go_wp2
    go_ret
    exact ⟨rfl, Below.refl _ _⟩
  by_cases ht1 : taken ≤ len
  rotate_left 1
  · go_wp2
    go_ret
    exact ⟨rfl, Below.refl _ _⟩
  obtain ⟨i', rfl⟩ := Int.eq_ofNat_of_zero_le (show 0 ≤ i by omega)
  obtain ⟨tk, rfl⟩ := Int.eq_ofNat_of_zero_le (show 0 ≤ taken by omega)
  have hle2 : s.size + after.size + ss.length + sizes ss ≤ 1048576 := by rw [← HLEN.out]; exact hle
  have htk2 : tk ≤ ss.length := by rw [← HLEN.out]; omega
  have hi2 : i' ≤ s.size := by omega
  go_wp2_with fail
  refine (clone_all a len cap ss _ (by omega) HA.out).mono ?_
  rintro e w1 ⟨mv, rfl, hb1, hm1⟩
  obtain ⟨a1, c1, rfl⟩ := hm1.shape
  have HB1 : Hid (Below w'.heap.size w' w1) := hb1
  have HM1 : Hid (MoreIs w1 (.slice a1 ss.length c1) ss) := hm1
  have HLE : Hid (s.size + after.size + ss.length + sizes ss ≤ 1048576) := hle2
  clear hb1 hm1 HA
  go_wp2_with fail
  refine (restOf_any s i' after _ ss tk _ (Nat.le_trans HLE.out (by decide)) hi2 htk2 HM1.out).mono ?_
  rintro e w2 ⟨v, rfl, hown, hb2⟩
  obtain ⟨a2, c2, rfl⟩ := slice_of_owns hown
  have HB2 : Hid (Below w1.heap.size w1 w2) := hb2
  have HO : Hid (w2.ownsRow w1.heap.size 5 1 (.slice a2 (restL s i' after ss tk).length c2) (restL s i' after ss tk).length (Lib.byteCells (restL s i' after ss tk))) := hown
  have HM2 : Hid (MoreIs w2 (.slice a1 ss.length c1) ss) := HM1.out.below hb2
  clear hown hb2 HM1
  generalize hT : restL s i' after ss tk = T at *
  have HT : Hid (restL s i' after ss tk = T) := hT
  clear hT
  go_wp2_with fail
  refine (zzReach_any _ s base after ss tk i' n _ HM2.out HLE.out hi2 htk2 hn2).mono ?_
  rintro e w3 ⟨s', base', after', taken', r, rfl, hb3, hre⟩
  have HB3 : Hid (Below w2.heap.size w2 w3) := hb3
  have HRE : Hid (Reached s base after ss tk i' n s' base' after' taken' r) := hre
  have HBW : Hid (Below w'.heap.size w' w3) := (HB1.out.trans (HB2.out.mono HB1.out.size)).trans (hb3.mono (Nat.le_trans HB1.out.size HB2.out.size))
  have HM3 : Hid (MoreIs w3 (.slice a1 ss.length c1) ss) := HM2.out.below hb3
  clear hb3 hre HM2
  obtain ⟨k1, k2, k3, k4, k5, k6⟩ := keeps_law HRE.out hi2 htk2
  rw [HT.out] at k5
  have hbase : (wrap64 (base' + r) != wrap64 (base + i')) = false := by rw [k4]; simp
  have K5 : Hid (restL s' r after' ss taken' = T) := k5
  have hTl : T.length ≤ 4194304 := by
    have := restL_len s i' after ss tk
    rw [HT.out] at this
    omega
  clear k4 k5
  go_wp2_with fail
  refine (restOf_any s' r after' _ ss taken' _ (by have := HLE.out; omega) k3 k2 HM3.out).mono ?_
  rintro e w4 ⟨v4, rfl, hown4, hb4⟩
  rw [K5.out] at hown4
  obtain ⟨a4, c4, rfl⟩ := slice_of_owns hown4
  have h1 : BytesAt w4 a2 T := ((BytesAt.of HO.out).below HB3.out).below hb4
  have h2 : BytesAt w4 a4 T := BytesAt.of hown4
  have H1 : Hid (BytesAt w4 a2 T ∧ BytesAt w4 a4 T) := ⟨h1, h2⟩
  have HB4 : Hid (Below w'.heap.size w' w4) := HBW.out.trans (hb4.mono HBW.out.size)
  clear h1 h2 hown4 hb4
  go_wp2_with fail
  refine (same_any a2 a4 c2 c4 T _ hTl H1.out.1 H1.out.2).mono ?_
  rintro e w5 ⟨rfl, hb5⟩
  have HB5 : Hid (Below w'.heap.size w' w5) := HB4.out.trans (hb5.mono HB4.out.size)
  clear hb5
  go_wp2
  go_ret
  exact ⟨rfl, HB5.out⟩
end Go.Proofs.Qxb6600062a
