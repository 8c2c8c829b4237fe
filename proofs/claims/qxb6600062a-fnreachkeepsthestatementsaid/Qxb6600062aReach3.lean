/-
  Seat b6600062a: restOf, walked.
-/
import Derived.Test.Qxb6600062aReach2
import Derived.Lib.AppendStr
import Derived.Lib.UnsafeStr
import Derived.Lib.IndexBytes
namespace Go.Proofs.Qxb6600062a
open Go.RowKit

/-- The bytes of all the strings, one behind the other. -/
def catS (ss : List ByteArray) : List UInt8 := ss.flatMap (·.data.toList)
/-- What 'restOf' gathers. -/
def restL (s : ByteArray) (i : Nat) (after : ByteArray) (ss : List ByteArray) (taken : Nat) : List UInt8 :=
  s.data.toList.drop i ++ after.data.toList ++ catS (ss.drop taken)
/-- .. as far as the k-th piece. -/
def restTo (s : ByteArray) (i : Nat) (after : ByteArray) (ss : List ByteArray) (taken k : Nat) : List UInt8 :=
  s.data.toList.drop i ++ after.data.toList ++ catS ((ss.drop taken).take (k - taken))
theorem catS_length (ss : List ByteArray) : (catS ss).length = sizes ss := by
  induction ss with
  | nil => rfl
  | cons a l ih =>
    simp only [catS, sizes, List.flatMap_cons, List.length_append, List.map_cons, List.sum_cons] at *
    rw [ih]; simp
theorem restTo_start (s : ByteArray) (i : Nat) (after : ByteArray) (ss : List ByteArray) (taken : Nat) : restTo s i after ss taken taken = s.data.toList.drop i ++ after.data.toList := by
  simp [restTo, catS]
theorem restTo_end (s : ByteArray) (i : Nat) (after : ByteArray) (ss : List ByteArray) (taken : Nat) : restTo s i after ss taken ss.length = restL s i after ss taken := by
  unfold restTo restL
  rw [List.take_of_length_le (by simp)]
theorem restTo_succ (s : ByteArray) (i : Nat) (after : ByteArray) (ss : List ByteArray) (taken k : Nat) (h1 : taken ≤ k) (h2 : k < ss.length) :
    restTo s i after ss taken (k + 1) = restTo s i after ss taken k ++ (ss.getD k ByteArray.empty).data.toList := by
  unfold restTo
  rw [show k + 1 - taken = (k - taken) + 1 from by omega, List.take_succ_eq_append_getElem (by simp; omega)]
  simp only [catS, List.flatMap_append, List.append_assoc]
  congr 2
  have : taken + (k - taken) = k := by omega
  simp [this, List.getD, h2]
theorem sizes_drop_take (ss : List ByteArray) (a b : Nat) : sizes ((ss.drop a).take b) ≤ sizes ss := by
  refine Nat.le_trans (sizes_take_le _ _) ?_
  unfold sizes
  conv => rhs; rw [← List.take_append_drop a ss, List.map_append, List.sum_append]
  omega
theorem restTo_len (s : ByteArray) (i : Nat) (after : ByteArray) (ss : List ByteArray) (taken k : Nat) :
    (restTo s i after ss taken k).length ≤ s.size + after.size + sizes ss := by
  unfold restTo
  have := sizes_drop_take ss taken (k - taken)
  rw [List.length_append, List.length_append, catS_length]
  simp
  omega

/-- What restOf hands back: a slice of its own that holds the bytes l. -/
def Gives (w : World) (l : List UInt8) (e : Ending) (w' : World) : Prop :=
  ∃ v, e = .returned v ∧ w'.ownsRow w.heap.size 5 1 v l.length (Lib.byteCells l) ∧ Below w.heap.size w w'

theorem slice_of_owns {w : World} {B n : Nat} {e : TypeId} {sz : Nat} {v : Value} {xs : List Value} (h : w.ownsRow B e sz v n xs) : ∃ a c, v = .slice a n c := by
  rcases h.2 with ⟨hv, h0⟩ | ⟨g, cap, cur, hv, _⟩
  · exact ⟨none, 0, by rw [hv, h0]⟩
  · exact ⟨_, _, hv⟩

set_option maxHeartbeats 1000000 in
theorem restOf_some (s : ByteArray) (i : Nat) (after : ByteArray) (g cap : Nat) (ss : List ByteArray) (taken : Nat) (w : World)
    (hle : s.size + after.size + ss.length + sizes ss ≤ 4194304) (hi : i ≤ s.size) (ht : taken ≤ ss.length) (hrow : RowIs w g 9 (ss.map Value.string)) (hg : g < w.heap.size) :
    Calls Try.prog 24 #[.string s, .int .i64 i, .string after, .slice (some ⟨g, 0, none⟩) ss.length cap, .int .i64 taken] w (Gives w (restL s i after ss taken)) := by
  obtain ⟨i5, hi5, hz5, hs5, hb5⟩ := info5
  have HL : Hid (∀ k, (restTo s i after ss taken k).length ≤ s.size + after.size + sizes ss) := restTo_len s i after ss taken
  have HE : Hid (restTo s i after ss taken ss.length = restL s i after ss taken) := restTo_end s i after ss taken
  have HR : Hid (RowIs w g 9 (ss.map Value.string)) := hrow
  have HG : Hid (g < w.heap.size) := hg
  have hsl : (s.extract i s.size).size = s.size - i := by simp
  generalize hn : ss.length = len at *
  have HN : Hid (ss.length = len) := hn
  clear hn hrow hg
  go_enter Try.func24, Try.ntmps24
  go_wp2_with (at_builtin; refine Lib.wpList_append_own_string _ rfl _ _ 33 9 rfl w.heap.size 5 i5 Try.underlying33 Try.underlying9 hi5 hz5 hs5 hb5 _ 0 [] rfl (World.ownsRow_nil _ _ _ _) (s.extract i s.size) rfl ?c3 ?c4 ?c5 ?_)
  case c3 => rw [hsl]; unfold maxLen; omega
  case c4 => rw [hsl]; omega
  case c5 => omega
  intro v1 w1 hown1 hgrow1 _
  have hb1 : Below w.heap.size w w1 := (Below.refl _ _).grown hgrow1 (Nat.le_refl _) (fun k hk => by cases hk)
  obtain ⟨a1, c1, rfl⟩ := slice_of_owns hown1
  have HB1 : Hid (Below w.heap.size w w1) := hb1
  have hz1 := hb1.size
  clear hb1 hgrow1
  go_wp2_with (at_builtin; refine Lib.wpList_append_own_string _ rfl _ _ 33 9 rfl w.heap.size 5 i5 Try.underlying33 Try.underlying9 hi5 hz5 hs5 hb5 _ _ _ rfl hown1 after rfl ?c3 ?c4 ?c5 ?_)
  case c3 => unfold maxLen; omega
  case c4 => omega
  case c5 => omega
  intro v2 w2 hown2 hgrow2 _
  have hb2 : Below w.heap.size w w2 := HB1.out.grown hgrow2 hz1 (fun k hk => (hown1.lt k hk).1)
  obtain ⟨a2, c2, rfl⟩ := slice_of_owns hown2
  have hown2' : w2.ownsRow w.heap.size 5 1 (.slice a2 (s.size - i + after.size) c2) (restTo s i after ss taken taken).length (Lib.byteCells (restTo s i after ss taken taken)) := by
    rw [restTo_start]
    have e1 : (s.data.toList.drop i ++ after.data.toList).length = s.size - i + after.size := by simp
    have e2 : Lib.byteCells (s.data.toList.drop i ++ after.data.toList) = Lib.strCells (s.extract i s.size) ++ Lib.strCells after := by
      rw [Lib.byteCells_append, Lib.strCells_eq, Lib.strCells_eq, Lib.extract_to_end]
    rw [e1, e2]
    exact hown2
  have HB2 : Hid (Below w.heap.size w w2) := hb2
  have HO2 : Hid (w2.ownsRow w.heap.size 5 1 (.slice a2 (s.size - i + after.size) c2) (restTo s i after ss taken taken).length (Lib.byteCells (restTo s i after ss taken taken))) := hown2'
  clear hb2 hown1 hown2 hown2' hgrow2 HB1 hz1
  go_wp2
  go_loopw [11, 12] (fun v x w' => ∃ k : Nat, taken ≤ k ∧ k ≤ len ∧ x = .int .i64 k ∧ Below w.heap.size w w' ∧ w'.ownsRow w.heap.size 5 1 v (restTo s i after ss taken k).length (Lib.byteCells (restTo s i after ss taken k))) (fun _ x _ => len - (intOf x).toNat)
  case atStart => exact ⟨taken, Nat.le_refl _, ht, rfl, HB2.out, HO2.out⟩
  case round =>
    obtain ⟨k, hk1, hk2, rfl, hbel, hown⟩ := hrel
    obtain ⟨ak, ck, rfl⟩ := slice_of_owns hown
    have HB : Hid (Below w.heap.size w wr) := hbel
    have hzr := hbel.size
    have hlk := HL.out k
    clear hbel HB2 HO2
    by_cases hlt : k < len
    · have hrowk := HR.out.below HB.out HG.out
      have hc : wr.cell? ⟨g, k, none⟩ = some (.string (ss.getD k ByteArray.empty)) := by
        have hk3 : k < ss.length := by rw [HN.out]; exact hlt
        rw [hrowk.cell]
        simp [List.getD, hk3]
      have hsu := restTo_succ s i after ss taken k hk1 (by rw [HN.out]; exact hlt)
      have hszk := size_le_sizes ss k (by rw [HN.out]; exact hlt)
      clear hrowk
      generalize ss.getD k ByteArray.empty = sk at hc hsu hszk
      have HSU : Hid (restTo s i after ss taken (k + 1) = restTo s i after ss taken k ++ sk.data.toList) := hsu
      clear hsu
      generalize hL : restTo s i after ss taken k = L at *
      clear hL
      go_wp2_with (at_builtin; refine Lib.wpList_append_own_string _ rfl _ _ 33 9 rfl w.heap.size 5 i5 Try.underlying33 Try.underlying9 hi5 hz5 hs5 hb5 _ _ _ rfl hown sk rfl ?c3 ?c4 ?c5 ?_)
      case c3 => unfold maxLen; omega
      case c4 => omega
      case c5 => omega
      intro v3 w3 hown3 hgrow3 _
      have hb3 : Below w.heap.size w w3 := HB.out.grown hgrow3 hzr (fun k hk => (hown.lt k hk).1)
      obtain ⟨a3, c3, rfl⟩ := slice_of_owns hown3
      have HB3 : Hid (Below w.heap.size w w3) := hb3
      have HO3 : Hid (w3.ownsRow w.heap.size 5 1 (.slice a3 (L.length + sk.size) c3) (L.length + sk.size) (Lib.byteCells L ++ Lib.strCells sk)) := hown3
      clear hb3 hown hown3 hgrow3
      go_wp2
      refine ⟨⟨k + 1, by omega, by omega, by go_num, HB3.out, ?_⟩, by simp [intOf]; omega⟩
      rw [HSU.out]
      have e1 : (L ++ sk.data.toList).length = L.length + sk.size := by simp
      rw [e1, Lib.byteCells_append, ← Lib.strCells_eq]
      exact HO3.out
    · obtain rfl : k = len := by omega
      have HO : Hid (wr.ownsRow w.heap.size 5 1 (.slice ak (restTo s i after ss taken k).length ck) (restTo s i after ss taken k).length (Lib.byteCells (restTo s i after ss taken k))) := hown
      clear hown
      go_wp2
      go_ret
      rw [← HE.out]
      exact ⟨_, rfl, HO.out, HB.out⟩

set_option maxHeartbeats 1000000 in
theorem restOf_nil (s : ByteArray) (i : Nat) (after : ByteArray) (w : World) (hle : s.size + after.size ≤ 4194304) (hi : i ≤ s.size) :
    Calls Try.prog 24 #[.string s, .int .i64 i, .string after, .slice none 0 0, .int .i64 0] w (Gives w (restL s i after [] 0)) := by
  obtain ⟨i5, hi5, hz5, hs5, hb5⟩ := info5
  have hsl : (s.extract i s.size).size = s.size - i := by simp
  go_enter Try.func24, Try.ntmps24
  go_wp2_with (at_builtin; refine Lib.wpList_append_own_string _ rfl _ _ 33 9 rfl w.heap.size 5 i5 Try.underlying33 Try.underlying9 hi5 hz5 hs5 hb5 _ 0 [] rfl (World.ownsRow_nil _ _ _ _) (s.extract i s.size) rfl ?c3 ?c4 ?c5 ?_)
  case c3 => rw [hsl]; unfold maxLen; omega
  case c4 => rw [hsl]; omega
  case c5 => omega
  intro v1 w1 hown1 hgrow1 _
  have hb1 : Below w.heap.size w w1 := (Below.refl _ _).grown hgrow1 (Nat.le_refl _) (fun k hk => by cases hk)
  obtain ⟨a1, c1, rfl⟩ := slice_of_owns hown1
  have HB1 : Hid (Below w.heap.size w w1) := hb1
  have hz1 := hb1.size
  clear hb1 hgrow1
  go_wp2_with (at_builtin; refine Lib.wpList_append_own_string _ rfl _ _ 33 9 rfl w.heap.size 5 i5 Try.underlying33 Try.underlying9 hi5 hz5 hs5 hb5 _ _ _ rfl hown1 after rfl ?c3 ?c4 ?c5 ?_)
  case c3 => unfold maxLen; omega
  case c4 => omega
  case c5 => omega
  intro v2 w2 hown2 hgrow2 _
  have hb2 : Below w.heap.size w w2 := HB1.out.grown hgrow2 hz1 (fun k hk => (hown1.lt k hk).1)
  obtain ⟨a2, c2, rfl⟩ := slice_of_owns hown2
  have hown2' : w2.ownsRow w.heap.size 5 1 (.slice a2 (s.size - i + after.size) c2) (restL s i after [] 0).length (Lib.byteCells (restL s i after [] 0)) := by
    have e0 : restL s i after [] 0 = s.data.toList.drop i ++ after.data.toList := by simp [restL, catS]
    rw [e0]
    have e1 : (s.data.toList.drop i ++ after.data.toList).length = s.size - i + after.size := by simp
    have e2 : Lib.byteCells (s.data.toList.drop i ++ after.data.toList) = Lib.strCells (s.extract i s.size) ++ Lib.strCells after := by
      rw [Lib.byteCells_append, Lib.strCells_eq, Lib.strCells_eq, Lib.extract_to_end]
    rw [e1, e2]
    exact hown2
  have HB2 : Hid (Below w.heap.size w w2) := hb2
  have HO2 : Hid (w2.ownsRow w.heap.size 5 1 (.slice a2 (s.size - i + after.size) c2) (restL s i after [] 0).length (Lib.byteCells (restL s i after [] 0))) := hown2'
  clear hb2 hown1 hown2 hown2' hgrow2 HB1 hz1
  go_wp2
  go_loop [11, 12] (fun v x => x = .int .i64 0 ∧ v = .slice a2 (s.size - i + after.size) c2) (fun _ _ => 0)
  case atStart => exact ⟨rfl, rfl⟩
  case round =>
    obtain ⟨rfl, rfl⟩ := hrel
    go_wp2
    go_ret
    exact ⟨_, rfl, HO2.out, HB2.out⟩

/-- The slice of strings that cloneStrings made: nil, or a row of its own. -/
def MoreIs (w : World) (v : Value) (ss : List ByteArray) : Prop :=
  (v = .slice none 0 0 ∧ ss = []) ∨ ∃ g, v = .slice (some ⟨g, 0, none⟩) ss.length ss.length ∧ RowIs w g 9 (ss.map Value.string) ∧ g < w.heap.size
theorem MoreIs.below {w w' : World} {v : Value} {ss : List ByteArray} (h : MoreIs w v ss) (hb : Below w.heap.size w w') : MoreIs w' v ss := by
  rcases h with h | ⟨g, hv, hr, hg⟩
  · exact .inl h
  · exact .inr ⟨g, hv, hr.below hb hg, Nat.lt_of_lt_of_le hg hb.size⟩

theorem restOf_any (s : ByteArray) (i : Nat) (after : ByteArray) (v : Value) (ss : List ByteArray) (taken : Nat) (w : World)
    (hle : s.size + after.size + ss.length + sizes ss ≤ 4194304) (hi : i ≤ s.size) (ht : taken ≤ ss.length) (hm : MoreIs w v ss) :
    Calls Try.prog 24 #[.string s, .int .i64 i, .string after, v, .int .i64 taken] w (Gives w (restL s i after ss taken)) := by
  rcases hm with ⟨rfl, rfl⟩ | ⟨g, rfl, hr, hg⟩
  · obtain rfl : taken = 0 := by simpa using ht
    exact restOf_nil s i after w (by simp [sizes] at hle; omega) hi
  · exact restOf_some s i after g _ ss taken w hle hi ht hr hg
end Go.Proofs.Qxb6600062a
