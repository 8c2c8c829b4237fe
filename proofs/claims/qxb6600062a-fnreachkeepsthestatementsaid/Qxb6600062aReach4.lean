/-
  Seat b6600062a: the lexer.s more and next, walked.
-/
import Derived.Test.Qxb6600062aReach3
import Derived.Test.Qxb6600062aShelf
import Derived.Deep.QuietTactic
import Derived.BigQuiet
namespace Go.Proofs.Qxb6600062a
open Go.RowKit

/-- The lexer's seven cells, in a block of its own. -/
def LexIs (w : World) (N : Nat) (mv : Value) (s : ByteArray) (base : Int) (after : ByteArray) (taken : Nat) : Prop :=
  RowIs w N 50 [.string ⟨#[]⟩, mv, .string s, .int .i64 0, .int .i64 base, .string after, .int .i64 taken]

theorem more_yes (N : Nat) (mv : Value) (s : ByteArray) (base : Int) (after : ByteArray) (taken : Nat) (w : World) (h : LexIs w N mv s base after taken) (ha : (after.toList == []) = false) :
    Calls Try.prog 37 #[.pointer (some ⟨N, 0, none⟩)] w fun e w' => e = .returned (.bool true) ∧ ∃ n, w' = w.drewN n := by
  have c5 : w.cell? ⟨N, 5, none⟩ = some (.string after) := by rw [RowIs.cell h]; rfl
  go_enter Try.func37, Try.ntmps37
  go_wp2
  go_quiet (fail)
  go_wp2
  go_ret
  exact ⟨rfl, _, rfl⟩

theorem more_no (N : Nat) (a : Option Addr) (len cap : Nat) (s : ByteArray) (base : Int) (after : ByteArray) (taken : Nat) (w : World) (h : LexIs w N (.slice a len cap) s base after taken) (ha : (after.toList == []) = true)  :
    Calls Try.prog 37 #[.pointer (some ⟨N, 0, none⟩)] w fun e w' => e = .returned (.bool (decide ((taken : Int) < (len : Int)))) ∧ ∃ n, w' = w.drewN n := by
  have c5 : w.cell? ⟨N, 5, none⟩ = some (.string after) := by rw [RowIs.cell h]; rfl
  have c6 : w.cell? ⟨N, 6, none⟩ = some (.int .i64 taken) := by rw [RowIs.cell h]; rfl
  have c1 : w.cell? ⟨N, 1, none⟩ = some (.slice a len cap) := by rw [RowIs.cell h]; rfl
  go_enter Try.func37, Try.ntmps37
  go_wp2
  go_quiet (fail)
  go_wp2
  go_ret
  refine ⟨?_, _, rfl⟩
  have : decide ((taken : Int) < (len : Int)) = decide (taken < len) := by simp
  rw [this]
  rfl

/-- Does the statement go on behind s? -/
def moreB (after : ByteArray) (taken len : Nat) : Bool := !(after.toList == []) || decide (taken < len)

theorem more_any (N : Nat) (a : Option Addr) (len cap : Nat) (s : ByteArray) (base : Int) (after : ByteArray) (taken : Nat) (w : World) (h : LexIs w N (.slice a len cap) s base after taken) :
    Calls Try.prog 37 #[.pointer (some ⟨N, 0, none⟩)] w fun e w' => e = .returned (.bool (moreB after taken len)) ∧ ∃ n, w' = w.drewN n := by
  cases ha : (after.toList == [])
  · refine (more_yes N _ s base after taken w h ha).mono ?_
    rintro e w' ⟨rfl, hw⟩
    exact ⟨by simp [moreB, ha], hw⟩
  · refine (more_no N a len cap s base after taken w h ha).mono ?_
    rintro e w' ⟨rfl, hw⟩
    exact ⟨by simp [moreB, ha], hw⟩

/-- Block N alone has been written. -/
theorem grown_set (w : World) (N j : Nat) (v : Value) : w.grownBy (w.setCell ⟨N, j, none⟩ v) (some N) :=
  ⟨rfl, rfl, rfl, by simp, fun k _ hk => Below.heap_setCell _ _ _ _ (fun e => hk (by simp [e]))⟩
theorem grown_trans {a b c : World} {row : Option Nat} (h : a.grownBy b row) (k : b.grownBy c row) : a.grownBy c row :=
  ⟨k.os.trans h.os, k.tape.trans h.tape, k.output.trans h.output, Nat.le_trans h.size k.size, fun i hi hr => (k.block i (Nat.lt_of_lt_of_le hi h.size) hr).trans (h.block i hi hr)⟩
theorem grown_drewN (w : World) (n : Nat) (row : Option Nat) : w.grownBy (w.drewN n) row := by
  induction n with
  | zero => exact ⟨rfl, rfl, rfl, Nat.le_refl _, fun _ _ _ => rfl⟩
  | succ n ih => exact ⟨ih.os, ih.tape, ih.output, ih.size, ih.block⟩
theorem RowIs.drewN {w : World} {N : Nat} {e : TypeId} {cs : List Value} (h : RowIs w N e cs) (n : Nat) : RowIs (w.drewN n) N e cs := by
  induction n with
  | zero => exact h
  | succ n ih => exact ih

theorem next_after (N : Nat) (mv : Value) (s : ByteArray) (base : Int) (after : ByteArray) (taken : Nat) (w : World) (h : LexIs w N mv s base after taken) (ha : (after.toList == []) = false) :
    Calls Try.prog 41 #[.pointer (some ⟨N, 0, none⟩)] w fun e w' => e = .returned (.string after) ∧ LexIs w' N mv s base ⟨#[]⟩ taken ∧ w.grownBy w' (some N) := by
  have c5 : w.cell? ⟨N, 5, none⟩ = some (.string after) := by rw [RowIs.cell h]; rfl
  have f5 : w.frozen? ⟨N, 5, none⟩ = false := RowIs.frozen h 5
  have HL : Hid (LexIs w N mv s base after taken) := h
  clear h
  go_enter Try.func41, Try.ntmps41
  go_wp2
  go_ret
  exact ⟨rfl, RowIs.set HL.out 5 _, grown_set _ _ _ _⟩

theorem next_piece (N g cap : Nat) (ss : List ByteArray) (s : ByteArray) (base : Int) (after : ByteArray) (taken : Nat) (w : World) (h : LexIs w N (.slice (some ⟨g, 0, none⟩) ss.length cap) s base after taken) (ha : (after.toList == []) = true)
    (ht : taken < ss.length) (hl : ss.length ≤ 1048576) (hr : RowIs w g 9 (ss.map Value.string)) (hne : g ≠ N) :
    Calls Try.prog 41 #[.pointer (some ⟨N, 0, none⟩)] w fun e w' => e = .returned (.string (ss.getD taken ByteArray.empty)) ∧ LexIs w' N (.slice (some ⟨g, 0, none⟩) ss.length cap) s base after (taken + 1) ∧ w.grownBy w' (some N) := by
  have c5 : w.cell? ⟨N, 5, none⟩ = some (.string after) := by rw [RowIs.cell h]; rfl
  have c6 : w.cell? ⟨N, 6, none⟩ = some (.int .i64 taken) := by rw [RowIs.cell h]; rfl
  have c1 : w.cell? ⟨N, 1, none⟩ = some (.slice (some ⟨g, 0, none⟩) ss.length cap) := by rw [RowIs.cell h]; rfl
  have f6 : w.frozen? ⟨N, 6, none⟩ = false := RowIs.frozen h 6
  have hcell : (w.setCell ⟨N, 6, none⟩ (.int .i64 ((taken : Int) + 1))).cell? ⟨g, taken, none⟩ = some (.string (ss.getD taken ByteArray.empty)) := by
    rw [RowIs.cell (hr.other ⟨N, 6, none⟩ _ hne)]
    simp [List.getD, ht]
  have hx : (0 : Int) ≤ (taken : Int) + 1 - 1 := by omega
  have hy : (taken : Int) + 1 - 1 < (ss.length : Int) := by omega
  have HL : Hid (LexIs w N (.slice (some ⟨g, 0, none⟩) ss.length cap) s base after taken) := h
  clear h hr
  generalize ss.getD taken ByteArray.empty = sk at *
  generalize ss.length = len at *
  go_enter Try.func41, Try.ntmps41
  go_wp2
  go_quiet (fail)
  go_wp2
  go_ret
  refine ⟨rfl, RowIs.drewN ?_ _, grown_trans (grown_set _ _ _ _) (grown_drewN _ _ _)⟩
  exact RowIs.set HL.out 6 _
end Go.Proofs.Qxb6600062a
