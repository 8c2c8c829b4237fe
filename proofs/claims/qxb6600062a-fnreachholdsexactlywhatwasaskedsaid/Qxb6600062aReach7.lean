/-
  Seat b6600062a: FnReachHoldsExactlyWhatWasAsked, walked.
-/
import Derived.Test.Qxb6600062aReach6
namespace Go.Proofs.Qxb6600062a
open Go.RowKit

/-- A slice of strings that came in: nil; or of no element, wherever; or a row of cells that hold the strings. -/
def StrArg (w : World) (a : Option Addr) (len cap : Nat) (ss : List ByteArray) : Prop :=
  (a = none ∧ len = 0 ∧ cap = 0 ∧ ss = []) ∨ (∃ x, a = some x ∧ len = 0 ∧ ss = []) ∨
  (∃ b off, a = some ⟨b, off, none⟩ ∧ len = ss.length ∧ b < w.heap.size ∧ StrsAt w b off ss)

section
variable (s : ByteArray) (base : Int) (after : ByteArray) (a : Option Addr) (len cap : Nat) (ss : List ByteArray) (taken i n : Int) (w : World)
theorem guard27 (hs : s.size ≤ maxLen) (ha : after.size ≤ maxLen) (hl : len ≤ maxLen) (hss : ∀ j, j < ss.length → (ss.getD j ByteArray.empty).size ≤ maxLen) (h : StrArg w a len cap ss) :
    Calls Try.prog 27 #[.string s, .int .i64 base, .string after, .slice a len cap, .int .i64 taken, .int .i64 i, .int .i64 n] w (Guards w (s.size + after.size + ss.length + sizes ss ≤ 1048576)) := by
  rcases h with ⟨rfl, rfl, rfl, rfl⟩ | ⟨x, rfl, rfl, rfl⟩ | ⟨b, off, rfl, rfl, hb, hat⟩
  · exact bytes27_none s base after none 0 taken i n w hs ha
  · exact bytes27_none s base after (some x) cap taken i n w hs ha
  · exact bytes27 s base after b off cap ss taken i n w hs ha hl hss hat
theorem guard21 (hs : s.size ≤ maxLen) (ha : after.size ≤ maxLen) (hl : len ≤ maxLen) (hss : ∀ j, j < ss.length → (ss.getD j ByteArray.empty).size ≤ maxLen) (h : StrArg w a len cap ss) :
    Calls Try.prog 21 #[.string s, .int .i64 base, .string after, .slice a len cap, .int .i64 taken, .int .i64 i, .int .i64 n] w (Guards w (s.size + after.size + ss.length + sizes ss ≤ 1048576)) := by
  rcases h with ⟨rfl, rfl, rfl, rfl⟩ | ⟨x, rfl, rfl, rfl⟩ | ⟨b, off, rfl, rfl, hb, hat⟩
  · exact bytes21_none s base after none 0 taken i n w hs ha
  · exact bytes21_none s base after (some x) cap taken i n w hs ha
  · exact bytes21 s base after b off cap ss taken i n w hs ha hl hss hat
theorem bytesOf_all (hle : s.size + after.size + ss.length + sizes ss ≤ 1048576) (h : StrArg w a len cap ss) :
    Calls Try.prog 22 #[.string s, .string after, .slice a len cap] w (Counts w) := by
  rcases h with ⟨rfl, rfl, rfl, rfl⟩ | ⟨x, rfl, rfl, rfl⟩ | ⟨b, off, rfl, rfl, hb, hat⟩
  · exact bytesOf_none s after none 0 w (by omega)
  · exact bytesOf_none s after (some x) cap w (by omega)
  · exact bytesOf_any s after b off cap ss w hle hat
/-- What cloneStrings hands back: a slice of its own with the same strings. -/
def Clones (w : World) (ss : List ByteArray) (e : Ending) (w' : World) : Prop := ∃ mv, e = .returned mv ∧ Below w.heap.size w w' ∧ MoreIs w' mv ss
theorem clone_all (hle : ss.length ≤ 1048576) (h : StrArg w a len cap ss) : Calls Try.prog 23 #[.slice a len cap] w (Clones w ss) := by
  rcases h with ⟨rfl, rfl, rfl, rfl⟩ | ⟨x, rfl, rfl, rfl⟩ | ⟨b, off, rfl, rfl, hb, hat⟩
  · refine (clone_nil w).mono ?_
    rintro e w' ⟨rfl, rfl⟩
    exact ⟨_, rfl, Below.refl _ _, .inl ⟨rfl, rfl⟩⟩
  · refine (clone_empty x cap w).mono ?_
    rintro e w' ⟨rfl, hb, hr, hz⟩
    exact ⟨_, rfl, hb, .inr ⟨w.heap.size, rfl, hr, by omega⟩⟩
  · refine (clone_some b off cap ss w hle hat hb).mono ?_
    rintro e w' ⟨rfl, hb, hr, hz⟩
    exact ⟨_, rfl, hb, .inr ⟨w.heap.size, rfl, hr, by omega⟩⟩
end

theorem StrArg.len_eq {w : World} {a : Option Addr} {len cap : Nat} {ss : List ByteArray} (h : StrArg w a len cap ss) : len = ss.length := by
  rcases h with ⟨rfl, rfl, rfl, rfl⟩ | ⟨x, rfl, rfl, rfl⟩ | ⟨b, off, rfl, rfl, hb, hat⟩ <;> rfl
theorem MoreIs.shape {w : World} {v : Value} {ss : List ByteArray} (h : MoreIs w v ss) : ∃ a c, v = .slice a ss.length c := by
  rcases h with ⟨rfl, rfl⟩ | ⟨g, rfl, _⟩
  · exact ⟨_, _, rfl⟩
  · exact ⟨_, _, rfl⟩

theorem owned_cap {w : World} {B : Nat} {T : List UInt8} {a : Option Addr} {c : Nat} (h : w.ownsRow B 5 1 (.slice a T.length c) T.length (Lib.byteCells T)) : T.length ≤ c := by
  rcases h.2 with ⟨hv, h0⟩ | ⟨g, cap, cur, hv, _, _, hc, _⟩
  · rw [h0]; exact Nat.zero_le _
  · injection hv with _ _ h3
    rw [h3]; exact hc
/-- 'string(t[:k])' of a slice of bytes that restOf made. -/
theorem owned_string {w w' : World} {B : Nat} {T : List UInt8} {a : Option Addr} {c : Nat} (h : w.ownsRow B 5 1 (.slice a T.length c) T.length (Lib.byteCells T)) (hb : Below w.heap.size w w') (k : Nat) (hk : k ≤ T.length) :
    (convert 33 9 (.slice a k c)).run Try.prog w' = .ok (.string ⟨(T.take k).toArray⟩) w' := by
  rcases h.2 with ⟨hv, h0⟩ | ⟨g, cap, cur, hv, _⟩
  · injection hv with h1 _ h3
    subst h1
    have hT : T = [] := List.length_eq_zero_iff.1 h0
    subst hT
    obtain rfl : k = 0 := by simpa using hk
    exact run_convert_bytes_nil w' 33 5 Try.underlying33 Try.underlying5 _ _ 9 Try.underlying9
  · injection hv with h1 _ h3
    subst h1; subst h3
    have hlt : g < w.heap.size := (h.lt g rfl).2
    have hlen : (T.take k).length = k := by simp; omega
    have := run_convert_bytes_back (P := Try.prog) w' 33 9 5 ⟨g, 0, none⟩ c (T.take k) Try.underlying33 Try.underlying5 Try.underlying9 (fun j hj => by
      rw [hlen] at hj
      rw [WideShapes.add_plain, Nat.zero_add, hb.cell (p := ⟨g, j, none⟩) hlt, h.cellAt j (by omega)]
      have hjT : j < T.length := by omega
      simp [Lib.byteCells, hjT])
    rwa [hlen] at this
theorem slice_head {T : List UInt8} (a : Option Addr) (c k : Nat) (hk : k ≤ c) (wx : World) :
    (Instr.slice 33 (.slice a T.length c) none (some (.int .i64 (k : Int))) none).run Try.prog wx = .ok (.slice a k c) wx := by
  simp [Instr.slice, Instr.sliceBounds, Instr.sliceBound, asIntOf, run_underlying Try.underlying33, go_sem, hk]
theorem holds_law {s : ByteArray} {base : Int} {after : ByteArray} {ss : List ByteArray} {taken i nn : Nat} {s' : ByteArray} {base' : Int} {after' : ByteArray} {taken' r : Nat}
    (h : Reached s base after ss taken i (nn : Int) s' base' after' taken' r) (hi : i ≤ s.size) (hn : (s.size : Int) - (i : Int) < (nn : Int)) :
    r ≤ s'.size ∧ s'.data.toList.drop r = (restL s i after ss taken).take nn := by
  rcases h with ⟨h1, rfl, rfl, rfl, rfl, rfl⟩ | ⟨_, rfl, _, _, _, h5, _⟩
  · refine ⟨hi, ?_⟩
    have hm : moreB after' taken' ss.length = false := by
      rcases h1 with h1 | h1
      · omega
      · exact h1
    simp only [moreB, Bool.or_eq_false_iff, Bool.not_eq_false', decide_eq_false_iff_not] at hm
    have h1 := empty_of_toList hm.1
    have h2 : ss.drop taken' = [] := List.drop_eq_nil_of_le (by omega)
    unfold restL
    rw [h1, h2]
    simp only [catS, List.flatMap_nil, List.append_nil]
    rw [List.take_of_length_le]
    simp; omega
  · refine ⟨Nat.zero_le _, ?_⟩
    rw [List.drop_zero, h5, Int.toNat_natCast]

set_option maxRecDepth 100000 in
set_option maxHeartbeats 1000000 in
theorem walk7 (s : ByteArray) (base : Int) (after : ByteArray) (a : Option Addr) (len cap : Nat) (ss : List ByteArray) (taken i n : Int) (w : World)
    (hs : s.size ≤ maxLen) (ha : after.size ≤ maxLen) (hl : len ≤ maxLen) (hss : ∀ j, j < ss.length → (ss.getD j ByteArray.empty).size ≤ maxLen) (h : StrArg w a len cap ss)
    (hn0 : -9223372036854775808 ≤ n) (hn2 : n ≤ 9223372036854775807) :
    Calls Try.prog 7 #[.string s, .int .i64 base, .string after, .slice a len cap, .int .i64 taken, .int .i64 i, .int .i64 n] w fun e w' => e = .returned (.bool true) ∧ Below w.heap.size w w' := by
  have hlen := h.len_eq
  have HLEN : Hid (len = ss.length) := hlen
  have HA : Hid (StrArg w a len cap ss) := h
  have HG := (guard27 s base after a len cap ss taken i n w hs ha hl hss h)
  unfold maxLen at hs ha hl
  clear hss h hlen
  go_enter Try.func7, Try.ntmps7
  go_wp2_with fail
  refine HG.mono ?_
  clear HG
  rintro e w' ⟨B, rfl, rfl, hB⟩
  cases B
  · clear hB
    go_wp2
    go_ret
    exact ⟨rfl, Below.refl _ _⟩
  have hle := hB rfl
  rw [← HLEN.out] at hle
  clear hB
  by_cases hl2 : len ≤ 65536
  rotate_left 1
  · go_wp2
    go_ret
    exact ⟨rfl, Below.refl _ _⟩
  go_wp2_with fail
  refine (bytesOf_all s after a len cap ss _ (by rw [← HLEN.out]; exact hle) HA.out).mono ?_
  rintro e w' ⟨t, rfl, rfl⟩
  by_cases ht : t ≤ 1048576
  rotate_left 1
  · go_wp2
    go_ret
    exact ⟨rfl, Below.refl _ _⟩
  by_cases hi0 : i < 0
  · go_wp2
    go_ret
    exact ⟨rfl, Below.refl _ _⟩
  by_cases hi1 : i ≤ s.size
  rotate_left 1
  · go_wp2
    go_ret
    exact ⟨rfl, Below.refl _ _⟩
  by_cases ht0 : taken < 0
  · go_wp2
    go_ret
    exact ⟨rfl, Below.refl _ _⟩
  by_cases ht1 : taken ≤ len
  rotate_left 1
  · go_wp2
    go_ret
    exact ⟨rfl, Below.refl _ _⟩
  obtain ⟨i', rfl⟩ := Int.eq_ofNat_of_zero_le (show 0 ≤ i by omega)
  obtain ⟨tk, rfl⟩ := Int.eq_ofNat_of_zero_le (show 0 ≤ taken by omega)
  have hle2 : s.size + after.size + ss.length + sizes ss ≤ 1048576 := by rw [← HLEN.out]; exact hle
  have htk2 : tk ≤ ss.length := by rw [← HLEN.out]; omega
  have hi2 : i' ≤ s.size := by omega
  go_wp2_with fail
  refine (clone_all a len cap ss _ (by omega) HA.out).mono ?_
  rintro e w1 ⟨mv, rfl, hb1, hm1⟩
  obtain ⟨a1, c1, rfl⟩ := hm1.shape
  have HB1 : Hid (Below w'.heap.size w' w1) := hb1
  have HM1 : Hid (MoreIs w1 (.slice a1 ss.length c1) ss) := hm1
  have HLE : Hid (s.size + after.size + ss.length + sizes ss ≤ 1048576) := hle2
  clear hb1 hm1 HA
  go_wp2_with fail
  refine (restOf_any s i' after _ ss tk _ (Nat.le_trans HLE.out (by decide)) hi2 htk2 HM1.out).mono ?_
  rintro e w2 ⟨v, rfl, hown, hb2⟩
  obtain ⟨a2, c2, rfl⟩ := slice_of_owns hown
  have HB2 : Hid (Below w1.heap.size w1 w2) := hb2
  have HO : Hid (w2.ownsRow w1.heap.size 5 1 (.slice a2 (restL s i' after ss tk).length c2) (restL s i' after ss tk).length (Lib.byteCells (restL s i' after ss tk))) := hown
  have HM2 : Hid (MoreIs w2 (.slice a1 ss.length c1) ss) := HM1.out.below hb2
  clear hown hb2 HM1
  generalize hT : restL s i' after ss tk = T at *
  have HT : Hid (restL s i' after ss tk = T) := hT
  clear hT
  go_wp2_with fail
  refine (zzReach_any _ s base after ss tk i' n _ HM2.out HLE.out hi2 htk2 hn2).mono ?_
  rintro e w3 ⟨s', base', after', taken', r, rfl, hb3, hre⟩
  have HB3 : Hid (Below w2.heap.size w2 w3) := hb3
  have HRE : Hid (Reached s base after ss tk i' n s' base' after' taken' r) := hre
  have HBW : Hid (Below w'.heap.size w' w3) := (HB1.out.trans (HB2.out.mono HB1.out.size)).trans (hb3.mono (Nat.le_trans HB1.out.size HB2.out.size))
  clear hb3 hre HM2 HLE
  by_cases hn : n ≤ (s.size : Int) - (i' : Int)
  · have e5 : s' = s ∧ base' = base ∧ after' = after ∧ taken' = tk ∧ r = i' := by
      rcases HRE.out with h | h
      · exact h.2
      · exact absurd hn (by have := h.1; omega)
    obtain ⟨rfl, rfl, rfl, rfl, rfl⟩ := e5
    go_wp2
    go_ret
    exact ⟨rfl, HBW.out⟩
  obtain ⟨nn, rfl⟩ := Int.eq_ofNat_of_zero_le (show 0 ≤ n by omega)
  obtain ⟨hr, heq⟩ := holds_law HRE.out hi2 (by omega)
  rw [HT.out] at heq
  have hcap := owned_cap HO.out
  by_cases hk : nn < T.length
  · have hslice := fun wx => slice_head (T := T) a2 c2 nn (by omega) wx
    have hconv : ∀ nq, (convert 33 9 (.slice a2 nn c2)).run Try.prog (w3.drewN nq) = .ok (.string ⟨(T.take nn).toArray⟩) (w3.drewN nq) := fun nq => owned_string HO.out (below_drewN HB3.out nq) nn (by omega)
    have hconv0 : (convert 33 9 (.slice a2 nn c2)).run Try.prog w3 = .ok (.string ⟨(T.take nn).toArray⟩) w3 := owned_string HO.out HB3.out nn (by omega)
    have hfin : ((s'.extract r s'.size).toList == T.take nn) = true := by
      rw [ByteArray.toList_eq, Lib.extract_to_end, heq]; simp
    clear heq
    go_wp2
    go_quiet (fail)
    go_wp2
    go_ret
    exact ⟨rfl, below_drewN HBW.out _⟩
  · have hslice := fun wx => slice_head (T := T) a2 c2 T.length hcap wx
    have hTT : T.take nn = T := List.take_of_length_le (by omega)
    have hconv : ∀ nq, (convert 33 9 (.slice a2 T.length c2)).run Try.prog (w3.drewN nq) = .ok (.string ⟨T.toArray⟩) (w3.drewN nq) := fun nq => by
      have := owned_string HO.out (below_drewN HB3.out nq) T.length (Nat.le_refl _)
      rwa [List.take_length] at this
    have hconv0 : (convert 33 9 (.slice a2 T.length c2)).run Try.prog w3 = .ok (.string ⟨T.toArray⟩) w3 := by
      have := owned_string HO.out HB3.out T.length (Nat.le_refl _)
      rwa [List.take_length] at this
    have hfin : ((s'.extract r s'.size).toList == T) = true := by
      rw [ByteArray.toList_eq, Lib.extract_to_end, heq, hTT]; simp
    clear heq hTT
    go_wp2
    go_quiet (fail)
    go_wp2
    go_ret
    exact ⟨rfl, below_drewN HBW.out _⟩
end Go.Proofs.Qxb6600062a
