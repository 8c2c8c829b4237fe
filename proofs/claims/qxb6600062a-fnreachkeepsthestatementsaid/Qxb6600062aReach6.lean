/-
  Seat b6600062a: ZZReach, walked.
-/
import Derived.Test.Qxb6600062aReach5
namespace Go.Proofs.Qxb6600062a
open Go.RowKit

/-- reach, whatever the slice of pieces. -/
theorem reach_any (N : Nat) (mv : Value) (s : ByteArray) (base : Int) (after : ByteArray) (ss : List ByteArray) (taken i : Nat) (n : Int) (w : World)
    (h : LexIs w N mv s base after taken) (hN : w.heap.size = N + 1) (hmv : (mv = .slice none 0 0 ∧ ss = []) ∨ ∃ g, mv = .slice (some ⟨g, 0, none⟩) ss.length ss.length ∧ RowIs w g 9 (ss.map Value.string) ∧ g < N)
    (hle : s.size + after.size + ss.length + sizes ss ≤ 1048576) (hi : i ≤ s.size) (ht : taken ≤ ss.length) (hn2 : n ≤ 9223372036854775807) :
    Calls Try.prog 35 #[.pointer (some ⟨N, 0, none⟩), .int .i64 i, .int .i64 n] w (ReachPost w N mv s base after ss taken i n) := by
  have hN' : N < w.heap.size := by omega
  by_cases hn : n ≤ (s.size : Int) - (i : Int)
  · exact reach_has N mv s base after ss taken i n w h hN' (by omega) hi hn
  · cases hm : moreB after taken ss.length
    · rcases hmv with ⟨rfl, rfl⟩ | ⟨g, rfl, hr, hg⟩
      · exact reach_end N none 0 0 s base after [] taken i n w rfl h hN' (by omega) hi hn hm
      · exact reach_end N _ _ _ s base after ss taken i n w rfl h hN' (by omega) hi hn hm
    · rcases hmv with ⟨rfl, hnil⟩ | ⟨g, rfl, hr, hg⟩
      · exact reach_bridge_nil N s base after ss taken i n w hnil h hN' hle hi ht hn hn2 hm
      · exact reach_bridge N g s base after ss taken i n w h hN' hg hr hle hi ht hn hn2 hm

/-- What ZZReach hands back. -/
def ZZPost (w : World) (s : ByteArray) (base : Int) (after : ByteArray) (ss : List ByteArray) (taken i : Nat) (n : Int) (e : Ending) (w' : World) : Prop :=
  ∃ (s' : ByteArray) (base' : Int) (after' : ByteArray) (taken' r : Nat), e = .returned (.tuple #[.string s', .int .i64 base', .string after', .int .i64 taken', .int .i64 r]) ∧ Below w.heap.size w w' ∧
    Reached s base after ss taken i n s' base' after' taken' r

set_option maxHeartbeats 1000000 in
theorem zzReach_any (mv : Value) (s : ByteArray) (base : Int) (after : ByteArray) (ss : List ByteArray) (taken i : Nat) (n : Int) (w : World) (hmv : MoreIs w mv ss)
    (hle : s.size + after.size + ss.length + sizes ss ≤ 1048576) (hi : i ≤ s.size) (ht : taken ≤ ss.length) (hn2 : n ≤ 9223372036854775807) :
    Calls Try.prog 25 #[.string s, .int .i64 base, .string after, mv, .int .i64 taken, .int .i64 i, .int .i64 n] w (ZZPost w s base after ss taken i n) := by
  obtain ⟨a, l, c, rfl⟩ : ∃ a l c, mv = .slice a l c := by
    rcases hmv with ⟨rfl, _⟩ | ⟨g, rfl, _⟩
    · exact ⟨_, _, _, rfl⟩
    · exact ⟨_, _, _, rfl⟩
  have HM : Hid (MoreIs w (.slice a l c) ss) := hmv
  clear hmv
  go_enter Try.func25, Try.ntmps25
  go_wp2_with fail
  have hlx : LexIs (w.alloc (.cells #[.string ⟨#[]⟩, .slice a l c, .string s, .int .i64 0, .int .i64 base, .string after, .int .i64 taken] 50)) w.heap.size (.slice a l c) s base after taken := by
    show (w.heap.push _)[w.heap.size]? = _
    simp
  have hbw : Below w.heap.size w (w.alloc (.cells #[.string ⟨#[]⟩, .slice a l c, .string s, .int .i64 0, .int .i64 base, .string after, .int .i64 taken] 50)) := (Below.refl _ _).alloc (Nat.le_refl _) _
  have hsz : (w.alloc (.cells #[.string ⟨#[]⟩, .slice a l c, .string s, .int .i64 0, .int .i64 base, .string after, .int .i64 taken] 50)).heap.size = w.heap.size + 1 := by simp
  have hmv2 : ((Value.slice a l c) = .slice none 0 0 ∧ ss = []) ∨ ∃ g, (Value.slice a l c) = .slice (some ⟨g, 0, none⟩) ss.length ss.length ∧ RowIs (w.alloc (.cells #[.string ⟨#[]⟩, .slice a l c, .string s, .int .i64 0, .int .i64 base, .string after, .int .i64 taken] 50)) g 9 (ss.map Value.string) ∧ g < w.heap.size := by
    rcases HM.out with h | ⟨g, hv, hr, hg⟩
    · exact .inl h
    · exact .inr ⟨g, hv, hr.below hbw hg, hg⟩
  refine (reach_any w.heap.size (.slice a l c) s base after ss taken i n _ hlx hsz hmv2 hle hi ht hn2).mono ?_
  rintro e w1 ⟨s', base', after', taken', r, rfl, hl1, hb1, hN1, hre⟩
  have c2 : w1.cell? ⟨w.heap.size, 2, none⟩ = some (.string s') := by rw [RowIs.cell hl1]; rfl
  have c4 : w1.cell? ⟨w.heap.size, 4, none⟩ = some (.int .i64 base') := by rw [RowIs.cell hl1]; rfl
  have c5 : w1.cell? ⟨w.heap.size, 5, none⟩ = some (.string after') := by rw [RowIs.cell hl1]; rfl
  have c6 : w1.cell? ⟨w.heap.size, 6, none⟩ = some (.int .i64 taken') := by rw [RowIs.cell hl1]; rfl
  have HB1 : Hid (Below w.heap.size w w1) := hbw.trans hb1
  have HRE : Hid (Reached s base after ss taken i n s' base' after' taken' r) := hre
  clear hlx hbw hsz hmv2 hl1 hb1 hN1 hre HM
  go_wp2
  go_quiet (fail)
  go_wp2
  refine bodyPost_ret (v := .tuple #[.string s', .int .i64 base', .string after', .int .i64 taken', .int .i64 r]) (by simp [results, Try.results25, go_sem]) rfl ?_
  exact ⟨s', base', after', taken', r, rfl, below_drewN HB1.out _, HRE.out⟩
end Go.Proofs.Qxb6600062a
