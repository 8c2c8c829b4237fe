/-
  Seat b6600062a: mirrorOf, maskOf, converse walked; the plain law of the mirror.
-/
import Derived.Test.Qxb6600062aCmp
import Derived.WalkKit
import Derived.RowKit3
import Derived.Below
import Derived.Laws.IdiomStrings
import Derived.WideShapes
namespace Go.Proofs.Qxb6600062a
open Go.RowKit

def mirB (b : UInt8) : UInt8 := if b = 60 then 62 else if b = 62 then 60 else b
def mirTo (l : List UInt8) (k : Nat) : List UInt8 := (l.take k).map mirB ++ l.drop k

theorem mirTo_length (l : List UInt8) (k : Nat) : (mirTo l k).length = l.length := by
  simp [mirTo]; omega
theorem mirTo_at (l : List UInt8) (k : Nat) (h : k < l.length) : (mirTo l k).getD k 0 = l.getD k 0 := by
  have : min k l.length = k := by omega
  simp [mirTo, List.getElem?_append, this]
theorem mirTo_succ (l : List UInt8) (k : Nat) (h : k < l.length) : mirTo l (k + 1) = (mirTo l k).set k (mirB (l.getD k 0)) := by
  apply List.ext_getElem?
  intro j
  have hm : min k l.length = k := by omega
  have hm1 : min (k + 1) l.length = k + 1 := by omega
  simp only [mirTo, List.getElem?_set, List.getElem?_append, List.length_map, List.length_take, hm, hm1, List.length_append, List.length_drop]
  by_cases e : k = j
  · subst e
    simp [h]
    omega
  · simp only [e, if_false]
    by_cases hj : j < k
    · have : j < k + 1 := by omega
      simp [hj, this]
    · have h2 : ¬ j < k + 1 := by omega
      simp only [hj, h2, if_false, List.getElem?_drop]
      congr 1
      omega
theorem mirTo_all (l : List UInt8) : mirTo l l.length = l.map mirB := by simp [mirTo]
theorem mirTo_zero (l : List UInt8) : mirTo l 0 = l := by simp [mirTo]

/-- Block N holds, from its head on, the bytes l, and none of these cells is frozen. -/
def RowB (w : World) (N : Nat) (l : List UInt8) : Prop :=
  ∀ j, j < l.length → w.cell? ⟨N, j, none⟩ = some (.int .u8 ((l.getD j 0).toNat : Int)) ∧ w.frozen? ⟨N, j, none⟩ = false

theorem RowB.set {w : World} {N : Nat} {l : List UInt8} (h : RowB w N l) (k : Nat) (hk : k < l.length) (b : UInt8) :
    RowB (w.setCell ⟨N, k, none⟩ (.int .u8 (b.toNat : Int))) N (l.set k b) := by
  intro j hj
  rw [List.length_set] at hj
  obtain ⟨h1, h2⟩ := h j hj
  refine ⟨?_, by rw [World.frozen?_setCell]; exact h2⟩
  by_cases e : k = j
  · subst e
    rw [World.cell?_setCell_same _ _ _ (h k hk).1]
    simp [hk]
  · rw [World.cell?_setCell_other _ _ _ _ (fun q => e (by simpa using congrArg Addr.off q)), h1]
    simp [List.getD, e]

theorem Try.cells5 : Try.prog.cellsOf 5 = 1 := by kernel_rfl

theorem RowB.str {w : World} {N : Nat} {l : List UInt8} (h : RowB w N l) (cap : Nat) :
    (convert 33 9 (Value.slice (some ⟨N, 0, none⟩) l.length cap)).run Try.prog w = .ok (.string ⟨l.toArray⟩) w := by
  refine run_convert_bytes_back (P := Try.prog) w 33 9 5 ⟨N, 0, none⟩ cap l Try.underlying33 Try.underlying5 Try.underlying9 (fun j hj => ?_)
  rw [WideShapes.add_plain, Nat.zero_add, (h j hj).1]
  simp [List.getD, hj]

theorem bytesRow_RowB (w : World) (s : ByteArray) (cap : Nat) (p : Nat) (hp : s.size ≤ p) :
    RowB (w.alloc (.cells (bytesRow s cap) 5 (p, p + 1))) w.heap.size s.data.toList := by
  intro j hj
  have hj' : j < s.data.size := by simpa using hj
  refine ⟨?_, ?_⟩
  · rw [World.cell?_alloc_mark]
    have hj2 : j < s.size := hj'
    simp [bytesRow, Array.getElem?_append, hj2, List.getD]
  · have : (w.alloc (.cells (bytesRow s cap) 5 (p, p + 1))).heap[w.heap.size]? = some (.cells (bytesRow s cap) 5 (p, p + 1)) := by
      show (w.heap.push _)[w.heap.size]? = _
      simp
    have hj2 : j < s.size := hj'
    unfold World.frozen?
    rw [this]
    simp
    omega

set_option maxHeartbeats 400000 in
theorem mirrorOf_any (s : ByteArray) (w : World) (hs : s.size ≤ maxLen) :
    Calls Try.prog 17 #[.string s] w fun e w' => e = .returned (.string ⟨(s.toList.map mirB).toArray⟩) ∧ Below w.heap.size w w' := by
  rw [ByteArray.toList_eq]
  unfold maxLen at hs
  have hc1 := run_bytes_of_string (P := Try.prog) w 9 33 5 s Try.underlying9 Try.underlying33 Try.underlying5
  have hlen : s.data.toList.length = s.size := by simp
  have HL : Hid (s.data.toList.length = s.size) := hlen
  clear hlen
  go_enter Try.func17, Try.ntmps17
  go_wp2
  go_loopw [4] (fun i w' => ∃ k : Nat, k ≤ s.size ∧ i = .int .i64 k ∧ Below w.heap.size w w' ∧ RowB w' w.heap.size (mirTo s.data.toList k)) (fun i _ => s.size - (intOf i).toNat)
  case atStart =>
    refine ⟨0, Nat.zero_le _, rfl, ((Below.refl _ _).alloc (Nat.le_refl _) _).drew, ?_⟩
    rw [mirTo_zero]
    exact bytesRow_RowB w s _ _ (by simp [bytesRow])
  case round =>
    obtain ⟨k, hk, rfl, hb, hrow⟩ := hrel
    have HB : Hid (Below w.heap.size w wr) := hb
    have HR : Hid (RowB wr w.heap.size (mirTo s.data.toList k)) := hrow
    clear hb hrow
    by_cases hlt : k < s.size
    · obtain ⟨hc, hf⟩ := HR.out k (by rw [mirTo_length, HL.out]; exact hlt)
      rw [mirTo_at _ _ (by rw [HL.out]; exact hlt)] at hc
      generalize hbk : s.data.toList.getD k 0 = bk at hc
      have HBK : Hid (s.data.toList.getD k 0 = bk) := hbk
      clear hbk
      have hfin : ∀ b, mirB bk = b → (∃ k1 : Nat, k1 ≤ s.size ∧ Value.int .i64 (k + 1) = Value.int .i64 k1 ∧ Below w.heap.size w (wr.setCell ⟨w.heap.size, k, none⟩ (.int .u8 (b.toNat : Int))) ∧
          RowB (wr.setCell ⟨w.heap.size, k, none⟩ (.int .u8 (b.toNat : Int))) w.heap.size (mirTo s.data.toList k1)) := by
        intro b hb
        refine ⟨k + 1, by omega, by go_num, HB.out.setCell (Nat.le_refl _) _, ?_⟩
        rw [mirTo_succ _ _ (by rw [HL.out]; exact hlt), HBK.out, hb]
        exact HR.out.set k (by rw [mirTo_length, HL.out]; exact hlt) b
      have HF : Hid (∀ b, mirB bk = b → (∃ k1 : Nat, k1 ≤ s.size ∧ Value.int .i64 (k + 1) = Value.int .i64 k1 ∧ Below w.heap.size w (wr.setCell ⟨w.heap.size, k, none⟩ (.int .u8 (b.toNat : Int))) ∧ RowB (wr.setCell ⟨w.heap.size, k, none⟩ (.int .u8 (b.toNat : Int))) w.heap.size (mirTo s.data.toList k1))) := hfin
      clear hfin
      by_cases h60 : bk = 60
      · subst h60
        go_wp2
        exact ⟨HF.out 62 (by decide), by simp [intOf]; omega⟩
      · by_cases h62 : bk = 62
        · subst h62
          go_wp2
          exact ⟨HF.out 60 (by decide), by simp [intOf]; omega⟩
        · have g60 : ((bk.toNat : Int) == 60) = false := by
            rw [beq_eq_false_iff_ne]; intro e; apply h60; apply UInt8.toNat_inj.1; simpa using (by omega : bk.toNat = 60)
          have g62 : ((bk.toNat : Int) == 62) = false := by
            rw [beq_eq_false_iff_ne]; intro e; apply h62; apply UInt8.toNat_inj.1; simpa using (by omega : bk.toNat = 62)
          go_wp2
          refine ⟨⟨k + 1, by omega, by go_num, HB.out, ?_⟩, by simp [intOf]; omega⟩
          have e := mirTo_succ s.data.toList k (by rw [HL.out]; exact hlt)
          have e2 : mirB (s.data.toList.getD k 0) = (mirTo s.data.toList k).getD k 0 := by
            rw [mirTo_at _ _ (by rw [HL.out]; exact hlt), HBK.out]; simp [mirB, h60, h62]
          have e3 : (mirTo s.data.toList k).set k ((mirTo s.data.toList k).getD k 0) = mirTo s.data.toList k := by
            apply List.ext_getElem?
            intro j
            rw [List.getElem?_set]
            split
            · rename_i hj; subst hj
              split
              · rename_i hj; simp [hj]
              · rename_i hj; simp at hj; simp [hj]
            · rfl
          rw [e, e2, e3]
          exact HR.out
    · obtain rfl : k = s.size := by omega
      have hconv : (convert 33 9 (Value.slice (some ⟨w.heap.size, 0, none⟩) s.size (grownCap w s.size 0 5))).run Try.prog wr = .ok (.string ⟨(s.data.toList.map mirB).toArray⟩) wr := by
        have hrow := HR.out
        rw [← HL.out, mirTo_all] at hrow
        have := hrow.str (grownCap w s.size 0 5)
        rwa [List.length_map, HL.out] at this
      go_wp2
      go_ret
      exact ⟨rfl, HB.out⟩

/-! ### The masks -/
def maskI (c : Int) : Int := if c == 1 then 2 else if c == 2 then 5 else if c == 3 then 1 else if c == 4 then 3 else if c == 5 then 4 else if c == 6 then 6 else 0
def convI (m : Int) : Int := if m == 1 then 4 else if m == 3 then 6 else if m == 4 then 1 else if m == 6 then 3 else m

theorem maskOf_any (c : Int) (w : World) :
    Calls Try.prog 15 #[.int .u8 c] w fun e w' => e = .returned (.int .u8 (maskI c)) ∧ w' = w := by
  go_enter Try.func15, Try.ntmps15
  go_wp2
  all_goals (go_ret; exact ⟨by simp [maskI, *], rfl⟩)

theorem converse_any (m : Int) (h : m = 1 ∨ m = 2 ∨ m = 3 ∨ m = 4 ∨ m = 5 ∨ m = 6) (w : World) :
    Calls Try.prog 18 #[.int .u8 m] w fun e w' => e = .returned (.int .u8 (convI m)) ∧ w' = w := by
  rcases h with rfl | rfl | rfl | rfl | rfl | rfl
  all_goals
    go_enter Try.func18, Try.ntmps18
    go_wp2
    go_ret
    exact ⟨rfl, rfl⟩

theorem bytes16 (s : ByteArray) (hs : s.size ≤ maxLen) (w : World) :
    Calls Try.prog 16 #[.string s] w fun e w' => e = .returned (.bool (decide (s.size ≤ 1048576))) ∧ w' = w := by
  unfold maxLen at hs
  by_cases h : s.size ≤ 1048576
  all_goals
    go_enter Try.func16, Try.ntmps16
    go_wp2
    go_ret
    exact ⟨by simp [h], rfl⟩

/-! ### The plain law -/
theorem mirB_inv (b : UInt8) : mirB (mirB b) = b := by
  unfold mirB
  repeat' split
  all_goals simp_all
theorem mir_inv (l : List UInt8) : (l.map mirB).map mirB = l := by
  rw [List.map_map]
  have : mirB ∘ mirB = id := funext mirB_inv
  rw [this, List.map_id]

theorem law_yes (l : List UInt8) (h : cmpOk l = true) (h2 : (l == [60, 62]) = false) :
    ∃ a b : Int, cmpC l = a ∧ cmpC (l.map mirB) = b ∧ cmpOk (l.map mirB) = true ∧ (l == [62, 60]) = false ∧ (maskI b == convI (maskI a)) = true ∧
      (maskI a = 1 ∨ maskI a = 2 ∨ maskI a = 3 ∨ maskI a = 4 ∨ maskI a = 5 ∨ maskI a = 6) := by
  simp only [cmpOk, Bool.or_eq_true, beq_iff_eq] at h
  rcases h with ((((((rfl | rfl) | rfl) | rfl) | rfl) | rfl) | rfl)
  all_goals first | (cases h2; done) | (refine ⟨_, _, rfl, rfl, ?_⟩; decide)

theorem law_no (l : List UInt8) (h : cmpOk l = false) (h2 : (l == [62, 60]) = false) :
    cmpC l = 0 ∧ cmpOk (l.map mirB) = false ∧ cmpC (l.map mirB) = 0 ∧ (l == [60, 62]) = false := by
  obtain ⟨c1, c2, _⟩ := cmp_no l h
  have h3 : cmpOk (l.map mirB) = false := by
    cases hk : cmpOk (l.map mirB)
    · rfl
    · simp only [cmpOk, Bool.or_eq_true, beq_iff_eq] at hk
      have hi := mir_inv l
      rcases hk with ((((((e | e) | e) | e) | e) | e) | e)
      all_goals
        rw [e] at hi
        rw [← hi] at h h2
        first | (revert h; decide) | (revert h2; decide)
  exact ⟨c1, h3, (cmp_no _ h3).1, c2⟩
end Go.Proofs.Qxb6600062a
