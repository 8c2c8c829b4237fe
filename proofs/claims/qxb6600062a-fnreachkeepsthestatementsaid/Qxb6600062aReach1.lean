/-
  Seat b6600062a: the size guards and bytesOf, walked.
-/
import Derived.Test.Qxb6600062aProg
import Derived.WalkKit
import Derived.RowKit3
import Derived.Below
namespace Go.Proofs.Qxb6600062a
open Go.RowKit

/-- A slice of strings, as the walks read it: its cells from its head on hold the strings ss. -/
def StrsAt (w : World) (b off : Nat) (ss : List ByteArray) : Prop :=
  ∀ j, j < ss.length → w.cell? ⟨b, off + j, none⟩ = some (.string (ss.getD j ByteArray.empty))

/-- All the bytes of the first k strings. -/
def sizes (ss : List ByteArray) : Nat := (ss.map (·.size)).sum
theorem sizes_take_succ (ss : List ByteArray) (k : Nat) (h : k < ss.length) : sizes (ss.take (k + 1)) = sizes (ss.take k) + (ss.getD k ByteArray.empty).size := by
  unfold sizes
  rw [List.take_succ_eq_append_getElem h, List.map_append, List.sum_append]
  simp [List.getD, h]
theorem sizes_take_le (ss : List ByteArray) (k : Nat) : sizes (ss.take k) ≤ sizes ss := by
  unfold sizes
  conv => rhs; rw [← List.take_append_drop k ss, List.map_append, List.sum_append]
  omega
theorem size_le_sizes (ss : List ByteArray) (k : Nat) (h : k < ss.length) : (ss.getD k ByteArray.empty).size ≤ sizes ss := by
  have h1 := sizes_take_succ ss k h
  have h2 := sizes_take_le ss (k + 1)
  omega

/-- What the size guard answers: a bool; where it is true, the bound holds; the world is as it was. -/
def Guards (w : World) (bound : Prop) (e : Ending) (w' : World) : Prop := ∃ B : Bool, e = .returned (.bool B) ∧ w' = w ∧ (B = true → bound)
/-- Some int; the world is as it was. -/
def Counts (w : World) (e : Ending) (w' : World) : Prop := ∃ t : Int, e = .returned (.int .i64 t) ∧ w' = w

set_option maxHeartbeats 1000000 in
theorem bytes27 (s : ByteArray) (base : Int) (after : ByteArray) (b off cap : Nat) (ss : List ByteArray) (taken i n : Int) (w : World)
    (hs : s.size ≤ maxLen) (ha : after.size ≤ maxLen) (hl : ss.length ≤ maxLen) (hss : ∀ j, j < ss.length → (ss.getD j ByteArray.empty).size ≤ maxLen) (hat : StrsAt w b off ss) :
    Calls Try.prog 27 #[.string s, .int .i64 base, .string after, .slice (some ⟨b, off, none⟩) ss.length cap, .int .i64 taken, .int .i64 i, .int .i64 n] w (Guards w (s.size + after.size + ss.length + sizes ss ≤ 1048576)) := by
  unfold maxLen at *
  generalize hn : ss.length = len at *
  have HN : Hid (ss.length = len) := hn
  clear hn
  have HSS : Hid (∀ j, j < len → (ss.getD j ByteArray.empty).size ≤ 2 ^ 63 - 1) := hss
  have HAT : Hid (StrsAt w b off ss) := hat
  clear hss hat
  by_cases h1 : s.size ≤ 1048576
  rotate_left 1
  · go_enter Try.func27, Try.ntmps27
    go_wp2
    go_ret
    exact ⟨false, rfl, rfl, fun h => by cases h⟩
  by_cases h2 : after.size ≤ 1048576
  rotate_left 1
  · go_enter Try.func27, Try.ntmps27
    go_wp2
    go_ret
    exact ⟨false, rfl, rfl, fun h => by cases h⟩
  by_cases h3 : s.size + after.size ≤ 1048576
  rotate_left 1
  · go_enter Try.func27, Try.ntmps27
    go_wp2
    go_ret
    exact ⟨false, rfl, rfl, fun h => by cases h⟩
  by_cases h4 : len ≤ 1048576
  rotate_left 1
  · go_enter Try.func27, Try.ntmps27
    go_wp2
    go_ret
    exact ⟨false, rfl, rfl, fun h => by cases h⟩
  by_cases h5 : s.size + after.size + len ≤ 1048576
  rotate_left 1
  · go_enter Try.func27, Try.ntmps27
    go_wp2
    go_ret
    exact ⟨false, rfl, rfl, fun h => by cases h⟩
  go_enter Try.func27, Try.ntmps27
  go_wp2
  go_loop [15, 16] (fun z x => ∃ k : Nat, k ≤ len ∧ x = .int .i64 k ∧ z = .int .i64 (s.size + after.size + len + sizes (ss.take k) : Nat) ∧ s.size + after.size + len + sizes (ss.take k) ≤ 1048576) (fun _ x => len - (intOf x).toNat)
  case atStart => exact ⟨0, Nat.zero_le _, rfl, by simp [sizes], by simp [sizes]; omega⟩
  case round =>
    obtain ⟨k, hk, rfl, rfl, hle⟩ := hrel
    by_cases hlt : k < len
    · have hcell := HAT.out k (by rw [HN.out]; exact hlt)
      have hsz := HSS.out k hlt
      have hsn := sizes_take_succ ss k (by rw [HN.out]; exact hlt)
      generalize ss.getD k ByteArray.empty = sk at hcell hsz hsn
      have HSN : Hid (sizes (ss.take (k + 1)) = sizes (ss.take k) + sk.size) := hsn
      clear hsn
      generalize hq : sizes (ss.take k) = q at *
      clear hq
      by_cases g1 : sk.size ≤ 1048576
      · by_cases g2 : s.size + after.size + len + q + sk.size ≤ 1048576
        · go_wp2
          exact ⟨⟨k + 1, by omega, by go_num, by rw [HSN.out]; go_num, by rw [HSN.out]; omega⟩, by simp [intOf]; omega⟩
        · go_wp2
          go_ret
          exact ⟨false, rfl, rfl, fun h => by cases h⟩
      · go_wp2
        go_ret
        exact ⟨false, rfl, rfl, fun h => by cases h⟩
    · obtain rfl : k = len := by omega
      have hall : Hid (sizes (ss.take k) = sizes ss) := by unfold Hid; rw [← HN.out, List.take_length]
      go_wp2
      go_ret
      exact ⟨true, rfl, rfl, fun _ => by rw [← hall.out]; exact hle⟩

set_option maxHeartbeats 1000000 in
theorem bytes27_none (s : ByteArray) (base : Int) (after : ByteArray) (a : Option Addr) (cap : Nat) (taken i n : Int) (w : World)
    (hs : s.size ≤ maxLen) (ha : after.size ≤ maxLen) :
    Calls Try.prog 27 #[.string s, .int .i64 base, .string after, .slice a 0 cap, .int .i64 taken, .int .i64 i, .int .i64 n] w (Guards w (s.size + after.size + ([] : List ByteArray).length + sizes [] ≤ 1048576)) := by
  unfold maxLen at *
  by_cases h1 : s.size ≤ 1048576
  rotate_left 1
  · go_enter Try.func27, Try.ntmps27
    go_wp2
    go_ret
    exact ⟨false, rfl, rfl, fun h => by cases h⟩
  by_cases h2 : after.size ≤ 1048576
  rotate_left 1
  · go_enter Try.func27, Try.ntmps27
    go_wp2
    go_ret
    exact ⟨false, rfl, rfl, fun h => by cases h⟩
  by_cases h3 : s.size + after.size ≤ 1048576
  rotate_left 1
  · go_enter Try.func27, Try.ntmps27
    go_wp2
    go_ret
    exact ⟨false, rfl, rfl, fun h => by cases h⟩
  go_enter Try.func27, Try.ntmps27
  go_wp2
  go_loop [15, 16] (fun z x => x = .int .i64 0) (fun _ x => 0)
  case atStart => rfl
  case round =>
    subst hrel
    go_wp2
    go_ret
    exact ⟨true, rfl, rfl, fun _ => by simp [sizes]; omega⟩

set_option maxHeartbeats 1000000 in
theorem bytes21 (s : ByteArray) (base : Int) (after : ByteArray) (b off cap : Nat) (ss : List ByteArray) (taken i n : Int) (w : World)
    (hs : s.size ≤ maxLen) (ha : after.size ≤ maxLen) (hl : ss.length ≤ maxLen) (hss : ∀ j, j < ss.length → (ss.getD j ByteArray.empty).size ≤ maxLen) (hat : StrsAt w b off ss) :
    Calls Try.prog 21 #[.string s, .int .i64 base, .string after, .slice (some ⟨b, off, none⟩) ss.length cap, .int .i64 taken, .int .i64 i, .int .i64 n] w (Guards w (s.size + after.size + ss.length + sizes ss ≤ 1048576)) := by
  unfold maxLen at *
  generalize hn : ss.length = len at *
  have HN : Hid (ss.length = len) := hn
  clear hn
  have HSS : Hid (∀ j, j < len → (ss.getD j ByteArray.empty).size ≤ 2 ^ 63 - 1) := hss
  have HAT : Hid (StrsAt w b off ss) := hat
  clear hss hat
  by_cases h1 : s.size ≤ 1048576
  rotate_left 1
  · go_enter Try.func21, Try.ntmps21
    go_wp2
    go_ret
    exact ⟨false, rfl, rfl, fun h => by cases h⟩
  by_cases h2 : after.size ≤ 1048576
  rotate_left 1
  · go_enter Try.func21, Try.ntmps21
    go_wp2
    go_ret
    exact ⟨false, rfl, rfl, fun h => by cases h⟩
  by_cases h3 : s.size + after.size ≤ 1048576
  rotate_left 1
  · go_enter Try.func21, Try.ntmps21
    go_wp2
    go_ret
    exact ⟨false, rfl, rfl, fun h => by cases h⟩
  by_cases h4 : len ≤ 1048576
  rotate_left 1
  · go_enter Try.func21, Try.ntmps21
    go_wp2
    go_ret
    exact ⟨false, rfl, rfl, fun h => by cases h⟩
  by_cases h5 : s.size + after.size + len ≤ 1048576
  rotate_left 1
  · go_enter Try.func21, Try.ntmps21
    go_wp2
    go_ret
    exact ⟨false, rfl, rfl, fun h => by cases h⟩
  go_enter Try.func21, Try.ntmps21
  go_wp2
  go_loop [15, 16] (fun z x => ∃ k : Nat, k ≤ len ∧ x = .int .i64 k ∧ z = .int .i64 (s.size + after.size + len + sizes (ss.take k) : Nat) ∧ s.size + after.size + len + sizes (ss.take k) ≤ 1048576) (fun _ x => len - (intOf x).toNat)
  case atStart => exact ⟨0, Nat.zero_le _, rfl, by simp [sizes], by simp [sizes]; omega⟩
  case round =>
    obtain ⟨k, hk, rfl, rfl, hle⟩ := hrel
    by_cases hlt : k < len
    · have hcell := HAT.out k (by rw [HN.out]; exact hlt)
      have hsz := HSS.out k hlt
      have hsn := sizes_take_succ ss k (by rw [HN.out]; exact hlt)
      generalize ss.getD k ByteArray.empty = sk at hcell hsz hsn
      have HSN : Hid (sizes (ss.take (k + 1)) = sizes (ss.take k) + sk.size) := hsn
      clear hsn
      generalize hq : sizes (ss.take k) = q at *
      clear hq
      by_cases g1 : sk.size ≤ 1048576
      · by_cases g2 : s.size + after.size + len + q + sk.size ≤ 1048576
        · go_wp2
          exact ⟨⟨k + 1, by omega, by go_num, by rw [HSN.out]; go_num, by rw [HSN.out]; omega⟩, by simp [intOf]; omega⟩
        · go_wp2
          go_ret
          exact ⟨false, rfl, rfl, fun h => by cases h⟩
      · go_wp2
        go_ret
        exact ⟨false, rfl, rfl, fun h => by cases h⟩
    · obtain rfl : k = len := by omega
      have hall : Hid (sizes (ss.take k) = sizes ss) := by unfold Hid; rw [← HN.out, List.take_length]
      go_wp2
      go_ret
      exact ⟨true, rfl, rfl, fun _ => by rw [← hall.out]; exact hle⟩

set_option maxHeartbeats 1000000 in
theorem bytes21_none (s : ByteArray) (base : Int) (after : ByteArray) (a : Option Addr) (cap : Nat) (taken i n : Int) (w : World)
    (hs : s.size ≤ maxLen) (ha : after.size ≤ maxLen) :
    Calls Try.prog 21 #[.string s, .int .i64 base, .string after, .slice a 0 cap, .int .i64 taken, .int .i64 i, .int .i64 n] w (Guards w (s.size + after.size + ([] : List ByteArray).length + sizes [] ≤ 1048576)) := by
  unfold maxLen at *
  by_cases h1 : s.size ≤ 1048576
  rotate_left 1
  · go_enter Try.func21, Try.ntmps21
    go_wp2
    go_ret
    exact ⟨false, rfl, rfl, fun h => by cases h⟩
  by_cases h2 : after.size ≤ 1048576
  rotate_left 1
  · go_enter Try.func21, Try.ntmps21
    go_wp2
    go_ret
    exact ⟨false, rfl, rfl, fun h => by cases h⟩
  by_cases h3 : s.size + after.size ≤ 1048576
  rotate_left 1
  · go_enter Try.func21, Try.ntmps21
    go_wp2
    go_ret
    exact ⟨false, rfl, rfl, fun h => by cases h⟩
  go_enter Try.func21, Try.ntmps21
  go_wp2
  go_loop [15, 16] (fun z x => x = .int .i64 0) (fun _ x => 0)
  case atStart => rfl
  case round =>
    subst hrel
    go_wp2
    go_ret
    exact ⟨true, rfl, rfl, fun _ => by simp [sizes]; omega⟩

set_option maxHeartbeats 1000000 in
theorem bytesOf_any (s after : ByteArray) (b off cap : Nat) (ss : List ByteArray) (w : World)
    (hle : s.size + after.size + ss.length + sizes ss ≤ 1048576) (hat : StrsAt w b off ss) :
    Calls Try.prog 22 #[.string s, .string after, .slice (some ⟨b, off, none⟩) ss.length cap] w (Counts w) := by
  have HTL : Hid (∀ k, sizes (ss.take k) ≤ sizes ss) := sizes_take_le ss
  generalize hn : ss.length = len at *
  have HN : Hid (ss.length = len) := hn
  clear hn
  have HAT : Hid (StrsAt w b off ss) := hat
  clear hat
  go_enter Try.func22, Try.ntmps22
  go_wp2
  go_loop [7, 8] (fun z x => ∃ k : Nat, k ≤ len ∧ x = .int .i64 k ∧ z = .int .i64 (s.size + after.size + 16 * len + sizes (ss.take k) : Nat)) (fun _ x => len - (intOf x).toNat)
  case atStart => exact ⟨0, Nat.zero_le _, rfl, by simp [sizes]⟩
  case round =>
    obtain ⟨k, hk, rfl, rfl⟩ := hrel
    have htl := HTL.out k
    by_cases hlt : k < len
    · have hcell := HAT.out k (by rw [HN.out]; exact hlt)
      have hsz := size_le_sizes ss k (by rw [HN.out]; exact hlt)
      have hsn := sizes_take_succ ss k (by rw [HN.out]; exact hlt)
      generalize ss.getD k ByteArray.empty = sk at hcell hsz hsn
      have HSN : Hid (sizes (ss.take (k + 1)) = sizes (ss.take k) + sk.size) := hsn
      clear hsn
      generalize hq : sizes (ss.take k) = q at *
      clear hq
      go_wp2
      · go_ret
        exact ⟨_, rfl, rfl⟩
      · exact ⟨⟨k + 1, by omega, by go_num, by rw [HSN.out]; go_num⟩, by simp [intOf]; omega⟩
    · go_wp2
      go_ret
      exact ⟨_, rfl, rfl⟩

theorem bytesOf_none (s after : ByteArray) (a : Option Addr) (cap : Nat) (w : World) (hle : s.size + after.size ≤ 1048576) :
    Calls Try.prog 22 #[.string s, .string after, .slice a 0 cap] w (Counts w) := by
  go_enter Try.func22, Try.ntmps22
  go_wp2
  go_loop [7, 8] (fun z x => x = .int .i64 0 ∧ ∃ t : Int, z = .int .i64 t) (fun _ x => 0)
  case atStart => exact ⟨rfl, _, rfl⟩
  case round =>
    obtain ⟨rfl, t, rfl⟩ := hrel
    go_wp2
    go_ret
    exact ⟨_, rfl, rfl⟩
end Go.Proofs.Qxb6600062a
