/-
  Seat b6600062a: (lexer).reach, walked.
-/
import Derived.Test.Qxb6600062aReach4
import Derived.Deep.LoopGhost
import Derived.Deep.Cut
import Derived.Deep.CutBlock
namespace Go.Proofs.Qxb6600062a
open Go.RowKit

/-- What reach leaves of the lexer, and what it answers. -/
def Reached (s : ByteArray) (base : Int) (after : ByteArray) (ss : List ByteArray) (taken i : Nat) (n : Int) (s' : ByteArray) (base' : Int) (after' : ByteArray) (taken' r : Nat) : Prop :=
  ((n ≤ (s.size : Int) - (i : Int) ∨ moreB after taken ss.length = false) ∧ s' = s ∧ base' = base ∧ after' = after ∧ taken' = taken ∧ r = i) ∨
  ((s.size : Int) - (i : Int) < n ∧ r = 0 ∧ base' = wrap64 (base + i) ∧ taken ≤ taken' ∧ taken' ≤ ss.length ∧ s'.data.toList = (restL s i after ss taken).take n.toNat ∧
    s'.data.toList ++ after'.data.toList ++ catS (ss.drop taken') = restL s i after ss taken)
def ReachPost (w : World) (N : Nat) (mv : Value) (s : ByteArray) (base : Int) (after : ByteArray) (ss : List ByteArray) (taken i : Nat) (n : Int) (e : Ending) (w' : World) : Prop :=
  ∃ (s' : ByteArray) (base' : Int) (after' : ByteArray) (taken' r : Nat), e = .returned (.int .i64 r) ∧ LexIs w' N mv s' base' after' taken' ∧ Below N w w' ∧ N < w'.heap.size ∧
    Reached s base after ss taken i n s' base' after' taken' r

theorem below_drewN {B : Nat} {a w : World} (h : Below B a w) (n : Nat) : Below B a (w.drewN n) := by
  induction n with
  | zero => exact h
  | succ n ih => exact ih.drew

/-- s holds what was asked already. -/
theorem reach_has (N : Nat) (mv : Value) (s : ByteArray) (base : Int) (after : ByteArray) (ss : List ByteArray) (taken i : Nat) (n : Int) (w : World)
    (h : LexIs w N mv s base after taken) (hN : N < w.heap.size) (hs : s.size ≤ 1048576) (hi : i ≤ s.size) (hn : n ≤ (s.size : Int) - (i : Int)) :
    Calls Try.prog 35 #[.pointer (some ⟨N, 0, none⟩), .int .i64 i, .int .i64 n] w (ReachPost w N mv s base after ss taken i n) := by
  have c2 : w.cell? ⟨N, 2, none⟩ = some (.string s) := by rw [RowIs.cell h]; rfl
  have HL : Hid (LexIs w N mv s base after taken) := h
  clear h
  go_enter Try.func35, Try.ntmps35
  go_wp2
  go_ret
  exact ⟨s, base, after, taken, i, rfl, HL.out, Below.refl _ _, hN, .inl ⟨.inl hn, rfl, rfl, rfl, rfl, rfl⟩⟩

/-- The statement ends with s. -/
theorem reach_end (N : Nat) (a : Option Addr) (len cap : Nat) (s : ByteArray) (base : Int) (after : ByteArray) (ss : List ByteArray) (taken i : Nat) (n : Int) (w : World)
    (hlen : len = ss.length) (h : LexIs w N (.slice a len cap) s base after taken) (hN : N < w.heap.size) (hs : s.size ≤ 1048576) (hi : i ≤ s.size) (hn : ¬ n ≤ (s.size : Int) - (i : Int)) (hm : moreB after taken len = false) :
    Calls Try.prog 35 #[.pointer (some ⟨N, 0, none⟩), .int .i64 i, .int .i64 n] w (ReachPost w N (.slice a len cap) s base after ss taken i n) := by
  have c2 : w.cell? ⟨N, 2, none⟩ = some (.string s) := by rw [RowIs.cell h]; rfl
  have HL : Hid (LexIs w N (.slice a len cap) s base after taken) := h
  have HN : Hid (len = ss.length) := hlen
  clear h hlen
  go_enter Try.func35, Try.ntmps35
  go_wp2_with (go_at_call 37; refine (more_any N a len cap s base after taken _ HL.out).mono ?_; rintro e w' ⟨rfl, nq, rfl⟩)
  go_ret
  exact ⟨s, base, after, taken, i, rfl, RowIs.drewN HL.out _, below_drewN (Below.refl _ _) _, by simpa using hN, .inl ⟨.inr (by rw [← HN.out]; exact hm), rfl, rfl, rfl, rfl, rfl⟩⟩

/-- The bridge under way: the lexer, the pieces' row, the builder with the bytes br. -/
structure BrState (w0 : World) (N b g : Nat) (mv : Value) (s : ByteArray) (base : Int) (ss : List ByteArray) (br : List UInt8) (after : ByteArray) (taken : Nat) (w : World) : Prop where
  lex : LexIs w N mv s base after taken
  row : ss ≠ [] → RowIs w g 9 (ss.map Value.string)
  bel : Below N w0 w
  bld : Lib.BuilderAt 56 5 b b (.pointer (some ⟨b, 0, none⟩)) (Lib.byteCells br) w

section
variable {w0 w w' : World} {N b g : Nat} {mv : Value} {s : ByteArray} {base : Int} {ss : List ByteArray} {br br' : List UInt8} {after after' : ByteArray} {taken taken' : Nat}
theorem BrState.drewN (h : BrState w0 N b g mv s base ss br after taken w) (n : Nat) : BrState w0 N b g mv s base ss br after taken (w.drewN n) := by
  refine ⟨RowIs.drewN h.lex n, fun hs => RowIs.drewN (h.row hs) n, below_drewN h.bel n, ?_⟩
  have := h.bld
  induction n with
  | zero => exact this
  | succ n ih => exact ih.drew
theorem BrState.lexed (h : BrState w0 N b g mv s base ss br after taken w) (hg : ss ≠ [] → g < N) (hN : N < b) (hl : LexIs w' N mv s base after' taken') (hw : w.grownBy w' (some N)) :
    BrState w0 N b g mv s base ss br after' taken' w' := by
  have hlt := h.bld.lt
  have hNw : N < w.heap.size := by omega
  refine ⟨hl, ?_, ?_, ?_⟩
  · intro hs
    have hg' := hg hs
    unfold RowIs
    rw [hw.block g (by omega) (by simp; omega)]
    exact h.row hs
  · exact h.bel.grown hw (by omega) (fun k hk => by simp at hk; omega)
  · obtain ⟨hB, v, hb, hown, hne⟩ := h.bld
    refine ⟨hB, v, ?_, hown.kept hw ?_, hne⟩
    · rw [hw.block b hlt (by simp; omega)]
      exact hb
    · cases hv : v.ownBlock with
      | none => exact .inl rfl
      | some k =>
        refine .inr ?_
        have := (hown.lt k hv).1
        simp; omega
theorem BrState.wrote (h : BrState w0 N b g mv s base ss br after taken w) (hg : ss ≠ [] → g < N) (hN : N < b) (hb : Lib.BuilderAt 56 5 b b (.pointer (some ⟨b, 0, none⟩)) (Lib.byteCells br') w') (hw : Below b w w') :
    BrState w0 N b g mv s base ss br' after taken w' :=
  ⟨RowIs.below h.lex hw hN, fun hs => RowIs.below (h.row hs) hw (by have := hg hs; omega), h.bel.trans (hw.mono (by omega)), hb⟩
end

theorem len_br {b : Nat} {br : List UInt8} {w : World} (h : Lib.BuilderAt 56 5 b b (.pointer (some ⟨b, 0, none⟩)) (Lib.byteCells br) w) :
    Calls Try.prog 40 #[.pointer (some ⟨b, 0, none⟩)] w fun e w' => e = .returned (.int .i64 br.length) ∧ w' = w := by
  have := Try.Builder_Len b b (Lib.byteCells br) w (.inr h)
  rwa [Lib.byteCells_length] at this
theorem write_br {b : Nat} {br : List UInt8} {w : World} (h : Lib.BuilderAt 56 5 b b (.pointer (some ⟨b, 0, none⟩)) (Lib.byteCells br) w) (x : ByteArray) (hlen : br.length + x.size ≤ 140737488355328) :
    Calls Try.prog 39 #[.pointer (some ⟨b, 0, none⟩), .string x] w fun e w' => e = .returned (.tuple #[.int .i64 x.size, .nilIface]) ∧
      Lib.BuilderAt 56 5 b b (.pointer (some ⟨b, 0, none⟩)) (Lib.byteCells (br ++ x.data.toList)) w' ∧ Below b w w' := by
  have := Try.Builder_WriteString b b (Lib.byteCells br) x w (.inr h) (by rw [Lib.byteCells_length]; exact hlen) (Nat.le_of_lt h.lt)
  rwa [Lib.strCells_eq, ← Lib.byteCells_append] at this

/-- What the bridge keeps as it goes: what was taken up is the head of the rest; the rest follows. -/
structure BrKeep (T : List UInt8) (ss : List ByteArray) (taken0 nn : Nat) (br : List UInt8) (after : ByteArray) (taken : Nat) : Prop where
  all : br ++ after.data.toList ++ catS (ss.drop taken) = T
  le : br.length ≤ nn
  lo : taken0 ≤ taken
  hi : taken ≤ ss.length

theorem catS_drop (ss : List ByteArray) (k : Nat) (h : k < ss.length) : catS (ss.drop k) = (ss.getD k ByteArray.empty).data.toList ++ catS (ss.drop (k + 1)) := by
  unfold catS
  rw [List.drop_eq_getElem_cons h, List.flatMap_cons]
  simp [List.getD, h]
theorem empty_of_toList {a : ByteArray} (h : (a.toList == []) = true) : a.data.toList = [] := by
  rw [ByteArray.toList_eq] at h
  simpa using h
theorem nonempty_of_toList {a : ByteArray} (h : (a.toList == []) = false) : 0 < a.size := by
  rw [ByteArray.toList_eq] at h
  have : a.data.toList ≠ [] := by simpa using h
  have h2 : a.data.toList.length ≠ 0 := fun e => this (List.length_eq_zero_iff.1 e)
  have h3 : a.data.toList.length = a.size := by simp
  omega
theorem head_take (x : ByteArray) (k : Nat) : (x.extract 0 k).data.toList = x.data.toList.take k := by
  rw [Lib.extract_data]; simp
theorem len_head (x : ByteArray) (k : Nat) (h : k ≤ x.size) : (x.extract 0 k).size = k := by simp; omega

/-- One step over the string x that follows: k of its bytes go over. -/
theorem BrKeep.step {T : List UInt8} {ss : List ByteArray} {t0 nn : Nat} {br : List UInt8} {after : ByteArray} {taken taken' : Nat} (h : BrKeep T ss t0 nn br after taken) (x : ByteArray) (k : Nat)
    (hx : after.data.toList ++ catS (ss.drop taken) = x.data.toList ++ catS (ss.drop taken')) (hk : k ≤ x.size) (hk2 : br.length + k ≤ nn) (h1 : taken ≤ taken') (h2 : taken' ≤ ss.length) :
    BrKeep T ss t0 nn (br ++ (x.extract 0 k).data.toList) (x.extract k x.size) taken' := by
  refine ⟨?_, ?_, Nat.le_trans h.lo h1, h2⟩
  · rw [head_take x k, Lib.extract_to_end, ← h.all]
    rw [List.append_assoc br after.data.toList, hx]
    simp only [List.append_assoc]
    rw [← List.append_assoc (List.take k x.data.toList), List.take_append_drop]
  · rw [List.length_append, head_take x k, List.length_take]
    have : x.data.toList.length = x.size := by simp
    omega
/-- The loop's end: the bridge is the rest's first nn bytes. -/
theorem BrKeep.done {T : List UInt8} {ss : List ByteArray} {t0 nn : Nat} {br : List UInt8} {after : ByteArray} {taken : Nat} (h : BrKeep T ss t0 nn br after taken)
    (hx : nn ≤ br.length ∨ moreB after taken ss.length = false) : br = T.take nn := by
  have hall := h.all
  rcases hx with hx | hx
  · have : br.length = nn := Nat.le_antisymm h.le hx
    rw [← hall, List.append_assoc, ← this]
    simp
  · simp only [moreB, Bool.or_eq_false_iff, Bool.not_eq_false', decide_eq_false_iff_not] at hx
    have h1 := empty_of_toList hx.1
    have h2 : ss.drop taken = [] := List.drop_eq_nil_of_le (by omega)
    rw [h1, h2] at hall
    simp [catS] at hall
    rw [← hall, List.take_of_length_le h.le]

/-- 'next' while the bridge is under way. -/
theorem next_any {w0 w : World} {N b g len : Nat} {mv : Value} {s : ByteArray} {base : Int} {ss : List ByteArray} {br : List UInt8} {af : ByteArray} {tk : Nat}
    (st : BrState w0 N b g mv s base ss br af tk w) (hlen : ss.length = len) (hmv : ss ≠ [] → mv = .slice (some ⟨g, 0, none⟩) len len) (hg : ss ≠ [] → g < N) (hN : N < b) (hl : len ≤ 1048576) (ht : tk ≤ len) (hmo : moreB af tk len = true) :
    Calls Try.prog 41 #[.pointer (some ⟨N, 0, none⟩)] w fun e w' => ∃ (x af' : ByteArray) (tk' : Nat), e = .returned (.string x) ∧
      BrState w0 N b g mv s base ss br af' tk' w' ∧ af.data.toList ++ catS (ss.drop tk) = x.data.toList ++ catS (ss.drop tk') ∧ tk ≤ tk' ∧ tk' ≤ len ∧ (0 < x.size ∨ tk < tk') := by
  subst hlen
  cases ha : (af.toList == [])
  · refine (next_after N _ s base af tk w st.lex ha).mono ?_
    rintro e w' ⟨rfl, hlx, hgr⟩
    exact ⟨af, _, tk, rfl, st.lexed hg hN hlx hgr, rfl, Nat.le_refl _, ht, .inl (nonempty_of_toList ha)⟩
  · have hlt : tk < ss.length := by simpa [moreB, ha] using hmo
    have hss : ss ≠ [] := by intro e; rw [e] at hlt; simp at hlt
    obtain rfl := hmv hss
    refine (next_piece N g ss.length ss s base af tk w st.lex ha hlt hl (st.row hss) (by have := hg hss; omega)).mono ?_
    rintro e w' ⟨rfl, hlx, hgr⟩
    refine ⟨_, af, tk + 1, rfl, st.lexed hg hN hlx hgr, ?_, by omega, by omega, .inr (by omega)⟩
    rw [empty_of_toList ha, List.nil_append, catS_drop ss tk hlt]

theorem restL_len (s : ByteArray) (i : Nat) (after : ByteArray) (ss : List ByteArray) (taken : Nat) : (restL s i after ss taken).length ≤ s.size + after.size + sizes ss := by
  rw [← restTo_end]
  exact restTo_len s i after ss taken ss.length

theorem slice_from (g len taken : Nat) (ht : taken ≤ len) (hl : len ≤ 1048576) : ∃ o2 : Nat, (taken < len → o2 = taken) ∧
    ∀ wx, (Instr.slice 29 (.slice (some ⟨g, 0, none⟩) len len) (some (.int .i64 (taken : Int))) none none).run Try.prog wx = .ok (.slice (some ⟨g, o2, none⟩) (len - taken) (len - taken)) wx := by
  have h1 : (taken : Int) ≤ (len : Int) := by omega
  by_cases h : taken = len
  · subst h
    refine ⟨0, fun h => by omega, fun wx => ?_⟩
    simp [Instr.slice, Instr.sliceBounds, Instr.sliceBound, asIntOf, run_underlying Try.underlying29, go_sem]
  · refine ⟨taken, fun _ => rfl, fun wx => ?_⟩
    simp [Instr.slice, Instr.sliceBounds, Instr.sliceBound, asIntOf, run_underlying Try.underlying29, go_sem]
    rw [if_pos ht, if_neg (fun e => h e.symm)]

set_option maxRecDepth 100000 in
set_option maxHeartbeats 2000000 in
theorem reach_bridge (N g : Nat) (s : ByteArray) (base : Int) (after : ByteArray) (ss : List ByteArray) (taken i : Nat) (n : Int) (w : World)
    (h : LexIs w N (.slice (some ⟨g, 0, none⟩) ss.length ss.length) s base after taken) (hN : N < w.heap.size) (hgN : g < N) (hrow : RowIs w g 9 (ss.map Value.string))
    (hle : s.size + after.size + ss.length + sizes ss ≤ 1048576) (hi : i ≤ s.size) (ht : taken ≤ ss.length) (hn : ¬ n ≤ (s.size : Int) - (i : Int)) (hn2 : n ≤ 9223372036854775807) (hm : moreB after taken ss.length = true) :
    Calls Try.prog 35 #[.pointer (some ⟨N, 0, none⟩), .int .i64 i, .int .i64 n] w (ReachPost w N (.slice (some ⟨g, 0, none⟩) ss.length ss.length) s base after ss taken i n) := by
  obtain ⟨nn, rfl⟩ := Int.eq_ofNat_of_zero_le (show 0 ≤ n by omega)
  have c1 : w.cell? ⟨N, 1, none⟩ = some (.slice (some ⟨g, 0, none⟩) ss.length ss.length) := by rw [RowIs.cell h]; rfl
  have c2 : w.cell? ⟨N, 2, none⟩ = some (.string s) := by rw [RowIs.cell h]; rfl
  have c4 : w.cell? ⟨N, 4, none⟩ = some (.int .i64 base) := by rw [RowIs.cell h]; rfl
  have f4 : w.frozen? ⟨N, 4, none⟩ = false := RowIs.frozen h 4
  have c5 : w.cell? ⟨N, 5, none⟩ = some (.string after) := by rw [RowIs.cell h]; rfl
  have c6 : w.cell? ⟨N, 6, none⟩ = some (.int .i64 taken) := by rw [RowIs.cell h]; rfl
  have HL : Hid (LexIs w N (.slice (some ⟨g, 0, none⟩) ss.length ss.length) s base after taken) := h
  have HR : Hid (RowIs w g 9 (ss.map Value.string)) := hrow
  clear h hrow
  obtain ⟨o2, ho2, hsl⟩ := slice_from g ss.length taken ht (by omega)
  have HO2 : Hid (taken < ss.length → o2 = taken) := ho2
  clear ho2
  have HSZ : Hid (∀ k, sizes ((ss.drop taken).take k) ≤ sizes ss) := fun k => sizes_drop_take ss taken k
  generalize hlen : ss.length = len at *
  have HN : Hid (ss.length = len) := hlen
  clear hlen
  go_enter Try.func35, Try.ntmps35
  go_wp2_with (go_at_call 37; refine (more_any N _ len len s base after taken _ HL.out).mono ?_; rintro e w' ⟨rfl, nq0, rfl⟩)
  go_quiet (fail)
  go_upto_block 0 with fail
  generalize hW : ((w.drewN nq0).setCell ⟨N, 4, none⟩ (.int .i64 (wrap64 (base + i)))).drewN nq = W
  have HLW : Hid (LexIs W N (.slice (some ⟨g, 0, none⟩) len len) s (wrap64 (base + i)) after taken) := by
    rw [← hW]; exact RowIs.drewN (RowIs.set (RowIs.drewN HL.out _) 4 _) _
  have HRW : Hid (RowIs W g 9 (ss.map Value.string)) := by
    rw [← hW]; exact RowIs.drewN (RowIs.other (RowIs.drewN HR.out _) _ _ (by simp; omega)) _
  have HBW : Hid (Below N w W) := by
    rw [← hW]; exact below_drewN ((below_drewN (Below.refl N w) nq0).setCell (p := ⟨N, 4, none⟩) (Nat.le_refl _) _) _
  have hNW : N < W.heap.size := by
    have := HBW.out.size; omega
  clear hW
  go_cut [8] from 14 (fun z w' => (∃ zz : Nat, z = .int .i64 zz ∧ zz ≤ 1048576) ∧ w' = W)
  case first =>
    go_wp2
    go_loop [8, 62] (fun z x => ∃ k : Nat, k ≤ len - taken ∧ x = .int .i64 k ∧ z = .int .i64 ((s.size - i) + after.size + sizes ((ss.drop taken).take k) : Nat)) (fun _ x => len - taken - (intOf x).toNat)
    case atStart => exact ⟨0, Nat.zero_le _, rfl, by simp [sizes]⟩
    case round =>
      obtain ⟨k, hk, rfl, rfl⟩ := hrel
      have hszk := HSZ.out k
      by_cases hlt : k < len - taken
      · have e0 : o2 = taken := HO2.out (by omega)
        have hc : W.cell? ⟨g, o2 + k, none⟩ = some (.string (ss.getD (taken + k) ByteArray.empty)) := by
          have hk3 : taken + k < ss.length := by rw [HN.out]; omega
          rw [HRW.out.cell, e0]
          simp [List.getD, hk3]
        have hsn : sizes ((ss.drop taken).take (k + 1)) = sizes ((ss.drop taken).take k) + (ss.getD (taken + k) ByteArray.empty).size := by
          rw [sizes_take_succ _ _ (by simp [HN.out]; omega)]
          simp [List.getD]
        have hsz2 := size_le_sizes ss (taken + k) (by rw [HN.out]; omega)
        have HSN : Hid (sizes ((ss.drop taken).take (k + 1)) = sizes ((ss.drop taken).take k) + (ss.getD (taken + k) ByteArray.empty).size) := hsn
        clear hsn e0
        generalize ss.getD (taken + k) ByteArray.empty = sk at *
        generalize hq : sizes ((ss.drop taken).take k) = q at *
        clear hq
        go_wp2
        · go_meet
          case rel => exact ⟨⟨(s.size - i) + after.size + q, by go_num, by omega⟩, rfl⟩
        · exact ⟨⟨k + 1, by omega, by go_num, by rw [HSN.out]; go_num⟩, by simp [intOf]; omega⟩
      · go_wp2
        go_meet
        case rel => exact ⟨⟨(s.size - i) + after.size + sizes ((ss.drop taken).take k), by go_num, by omega⟩, rfl⟩
  case rest =>
    obtain ⟨⟨zz, rfl, hzz⟩, rfl⟩ := hcut
    have hbk : (wc.alloc (.cells #[.pointer none, .slice none 0 0] 56)).heap[wc.heap.size]? = some (.cells #[.pointer none, .slice none 0 0] 56 (0, 0)) := by
      show (wc.heap.push _)[wc.heap.size]? = _
      simp
    have HBK : Hid ((wc.alloc (.cells #[.pointer none, .slice none 0 0] 56)).heap[wc.heap.size]? = some (.cells #[.pointer none, .slice none 0 0] 56 (0, 0))) := hbk
    clear hbk c1 c2 c4 f4 c5 c6 hsl
    have hmin : min (zz : Int) (nn : Int) = ((min zz nn : Nat) : Int) := by omega
    have HMIN : Hid (min (zz : Int) (nn : Int) = ((min zz nn : Nat) : Int)) := hmin
    clear hmin
    go_wp2_with fail
    rw [HMIN.out]
    refine (Try.Builder_Grow_fresh wc.heap.size wc.heap.size (min zz nn) _ (Nat.le_refl _) HBK.out (by simp) (by omega)).mono ?_
    rintro e w1 ⟨rfl, hbld1, hbel1⟩
    have ST1 : Hid (BrState w N wc.heap.size g (.slice (some ⟨g, 0, none⟩) len len) s (wrap64 (base + i)) ss [] after taken w1) :=
      ⟨RowIs.below (RowIs.below HLW.out ((Below.refl _ _).alloc (Nat.le_refl _) _) hNW) hbel1 hNW, fun _ => RowIs.below (RowIs.below HRW.out ((Below.refl _ _).alloc (Nat.le_refl _) _) (by omega)) hbel1 (by omega),
        (HBW.out.trans (((Below.refl _ _).alloc (Nat.le_refl _) _).mono (by omega))).trans (hbel1.mono (by omega)), hbld1⟩
    clear hbld1 hbel1 HBK HLW HRW HBW
    generalize hb : wc.heap.size = b at *
    clear hb
    go_wp2_with fail
    refine (Try.Builder_WriteString b b [] (s.extract i s.size) _ (.inr ST1.out.bld) (by simp; omega) (by have := ST1.out.bld.lt; omega)).mono ?_
    rintro e w2 ⟨rfl, hbld2, hbel2⟩
    have ST2 : Hid (BrState w N b g (.slice (some ⟨g, 0, none⟩) len len) s (wrap64 (base + i)) ss (s.data.toList.drop i) after taken w2) :=
      ST1.out.wrote (fun _ => hgN) hNW (by rw [← Lib.extract_to_end]; exact hbld2) hbel2
    clear hbld2 hbel2 ST1
    go_wp2_with fail
    have KP : Hid (BrKeep (restL s i after ss taken) ss taken nn (s.data.toList.drop i) after taken) :=
      ⟨rfl, by simp; omega, Nat.le_refl _, by rw [HN.out]; exact ht⟩
    go_loopg [] ((nn - (s.size - i)) + (len - taken)) (fun k wr => ∃ br after' taken', BrState w N b g (.slice (some ⟨g, 0, none⟩) len len) s (wrap64 (base + i)) ss br after' taken' wr ∧ BrKeep (restL s i after ss taken) ss taken nn br after' taken' ∧ k = (nn - br.length) + (len - taken'))
    case atStart => exact ⟨_, _, _, ST2.out, KP.out, by simp⟩
    case round =>
      obtain ⟨br, af, tk, st, kp, hk⟩ := hrel
      have ST : Hid (BrState w N b g (.slice (some ⟨g, 0, none⟩) len len) s (wrap64 (base + i)) ss br af tk wr) := st
      have KP2 : Hid (BrKeep (restL s i after ss taken) ss taken nn br af tk) := kp
      have HK : Hid (gk = (nn - br.length) + (len - tk)) := hk
      have hbn := kp.le
      have htk := kp.hi
      rw [HN.out] at htk
      clear st kp hk ST2 KP
      by_cases hl : br.length < nn
      · cases hmo : moreB af tk len
        · go_wp2_with (first
            | (go_at_call 40; refine (len_br ST.out.bld).mono ?_; rintro e w' ⟨rfl, rfl⟩)
            | (go_at_call 37; refine (more_any N _ len len s (wrap64 (base + i)) af tk _ ST.out.lex).mono ?_; rintro e w' ⟨rfl, nq1, rfl⟩))
          have ST5 := ST.out.drewN nq1
          refine (Try.Builder_String_any b b br _ (.inr ST5.bld) (Nat.le_of_lt ST5.bld.lt)).mono ?_
          rintro e w5 ⟨rfl, hbel5⟩
          have d2 : w5.cell? ⟨N, 2, none⟩ = some (.string s) := by rw [RowIs.cell (RowIs.below ST5.lex hbel5 hNW)]; rfl
          have e2 : w5.frozen? ⟨N, 2, none⟩ = false := RowIs.frozen (RowIs.below ST5.lex hbel5 hNW) 2
          have HL5 : Hid (LexIs w5 N (.slice (some ⟨g, 0, none⟩) len len) s (wrap64 (base + i)) af tk) := RowIs.below ST5.lex hbel5 hNW
          have HB5 : Hid (Below N w w5 ∧ N < w5.heap.size) := ⟨ST5.bel.trans (hbel5.mono (by omega)), by have := ST5.bld.lt; have := hbel5.size; omega⟩
          have HE5 : Hid (br = (restL s i after ss taken).take nn) := KP2.out.done (.inr (by rw [HN.out]; exact hmo))
          clear hbel5 ST5 ST
          go_wp2
          go_ret
          refine ⟨⟨br.toArray⟩, _, af, tk, 0, rfl, RowIs.set HL5.out 2 _, HB5.out.1.setCell (Nat.le_refl _) _, by simpa using HB5.out.2, .inr ⟨hn, rfl, rfl, KP2.out.lo, KP2.out.hi, ?_, ?_⟩⟩
          · rw [Int.toNat_natCast]; exact HE5.out
          · exact KP2.out.all
        · go_wp2_with (first
              | (go_at_call 40; refine (len_br ST.out.bld).mono ?_; rintro e w' ⟨rfl, rfl⟩)
              | (go_at_call 37; refine (more_any N _ len len s (wrap64 (base + i)) af tk _ ST.out.lex).mono ?_; rintro e w' ⟨rfl, nq1, rfl⟩))
          refine (next_any (ST.out.drewN nq1) HN.out (fun _ => rfl) (fun _ => hgN) hNW (by omega) htk hmo).mono ?_
          rintro e w3 ⟨x, af2, tk2, rfl, st3, hx, htk1, htk2, hxt⟩
          have ST3 : Hid (BrState w N b g (.slice (some ⟨g, 0, none⟩) len len) s (wrap64 (base + i)) ss br af2 tk2 w3) := st3
          have HX : Hid (af.data.toList ++ catS (ss.drop tk) = x.data.toList ++ catS (ss.drop tk2)) := hx
          have hTl : br.length + x.size ≤ 1048576 := by
            have h1 := congrArg List.length KP2.out.all
            rw [List.append_assoc, hx] at h1
            have h2 := restL_len s i after ss taken
            have h3 : x.data.toList.length = x.size := by simp
            simp only [List.length_append] at h1
            omega
          clear st3 hx ST
          have hmn : min ((nn : Int) - (br.length : Int)) (x.size : Int) = ((min (nn - br.length) x.size : Nat) : Int) := by omega
          have HMN : Hid (min ((nn : Int) - (br.length : Int)) (x.size : Int) = ((min (nn - br.length) x.size : Nat) : Int)) := hmn
          clear hmn
          go_wp2_with (go_at_call 40; refine (len_br ST3.out.bld).mono ?_; rintro e w' ⟨rfl, rfl⟩)
          rw [HMN.out, Int.toNat_natCast]
          have ht1 : min (nn - br.length) x.size ≤ x.size := Nat.min_le_right _ _
          have ht2 : br.length + min (nn - br.length) x.size ≤ nn := by omega
          have ht3 : 0 < x.size → 0 < min (nn - br.length) x.size := by omega
          generalize min (nn - br.length) x.size = t at *
          clear HMN
          refine (write_br ST3.out.bld (x.extract 0 t) (by rw [len_head x t ht1]; omega)).mono ?_
          rintro e w4 ⟨rfl, hbld4, hbel4⟩
          have ST4 : Hid (BrState w N b g (.slice (some ⟨g, 0, none⟩) len len) s (wrap64 (base + i)) ss (br ++ (x.extract 0 t).data.toList) af2 tk2 w4) := ST3.out.wrote (fun _ => hgN) hNW hbld4 hbel4
          clear hbld4 hbel4 ST3
          have d5 : w4.cell? ⟨N, 5, none⟩ = some (.string af2) := by rw [RowIs.cell ST4.out.lex]; rfl
          have e5 : w4.frozen? ⟨N, 5, none⟩ = false := RowIs.frozen ST4.out.lex 5
          have HT3 : Hid (0 < x.size → 0 < t) := ht3
          have HXT : Hid (0 < x.size ∨ tk < tk2) := hxt
          clear ht3 hxt
          go_wp2
          go_roundg ((nn - (br ++ (x.extract 0 t).data.toList).length) + (len - tk2))
          case measure =>
            have h1 : (x.extract 0 t).data.toList.length = t := by
              have := len_head x t ht1
              simpa using this
            rw [HK.out, List.length_append, h1]
            rcases HXT.out with h | h
            · have := HT3.out h
              omega
            · omega
          case rel =>
            refine ⟨_, x.extract t x.size, tk2, ST4.out.lexed (fun _ => hgN) hNW (RowIs.set ST4.out.lex 5 _) (grown_set _ _ _ _), ?_, rfl⟩
            exact KP2.out.step x t HX.out ht1 ht2 htk1 (by rw [HN.out]; exact htk2)
      · go_wp2_with (go_at_call 40; refine (len_br ST.out.bld).mono ?_; rintro e w' ⟨rfl, rfl⟩)
        have ST5 := ST.out
        refine (Try.Builder_String_any b b br _ (.inr ST5.bld) (Nat.le_of_lt ST5.bld.lt)).mono ?_
        rintro e w5 ⟨rfl, hbel5⟩
        have d2 : w5.cell? ⟨N, 2, none⟩ = some (.string s) := by rw [RowIs.cell (RowIs.below ST5.lex hbel5 hNW)]; rfl
        have e2 : w5.frozen? ⟨N, 2, none⟩ = false := RowIs.frozen (RowIs.below ST5.lex hbel5 hNW) 2
        have HL5 : Hid (LexIs w5 N (.slice (some ⟨g, 0, none⟩) len len) s (wrap64 (base + i)) af tk) := RowIs.below ST5.lex hbel5 hNW
        have HB5 : Hid (Below N w w5 ∧ N < w5.heap.size) := ⟨ST5.bel.trans (hbel5.mono (by omega)), by have := ST5.bld.lt; have := hbel5.size; omega⟩
        have HE5 : Hid (br = (restL s i after ss taken).take nn) := KP2.out.done (.inl (by omega))
        clear hbel5 ST5 ST
        go_wp2
        go_ret
        refine ⟨⟨br.toArray⟩, _, af, tk, 0, rfl, RowIs.set HL5.out 2 _, HB5.out.1.setCell (Nat.le_refl _) _, by simpa using HB5.out.2, .inr ⟨hn, rfl, rfl, KP2.out.lo, KP2.out.hi, ?_, ?_⟩⟩
        · rw [Int.toNat_natCast]; exact HE5.out
        · exact KP2.out.all

set_option maxRecDepth 100000 in
set_option maxHeartbeats 2000000 in
theorem reach_bridge_nil (N : Nat) (s : ByteArray) (base : Int) (after : ByteArray) (ss : List ByteArray) (taken i : Nat) (n : Int) (w : World) (hss : ss = [])
    (h : LexIs w N (.slice none 0 0) s base after taken) (hN : N < w.heap.size)
    (hle : s.size + after.size + ss.length + sizes ss ≤ 1048576) (hi : i ≤ s.size) (ht : taken ≤ ss.length) (hn : ¬ n ≤ (s.size : Int) - (i : Int)) (hn2 : n ≤ 9223372036854775807) (hm : moreB after taken ss.length = true) :
    Calls Try.prog 35 #[.pointer (some ⟨N, 0, none⟩), .int .i64 i, .int .i64 n] w (ReachPost w N (.slice none 0 0) s base after ss taken i n) := by
  obtain ⟨nn, rfl⟩ := Int.eq_ofNat_of_zero_le (show 0 ≤ n by omega)
  have c1 : w.cell? ⟨N, 1, none⟩ = some (.slice none 0 0) := by rw [RowIs.cell h]; rfl
  have c2 : w.cell? ⟨N, 2, none⟩ = some (.string s) := by rw [RowIs.cell h]; rfl
  have c4 : w.cell? ⟨N, 4, none⟩ = some (.int .i64 base) := by rw [RowIs.cell h]; rfl
  have f4 : w.frozen? ⟨N, 4, none⟩ = false := RowIs.frozen h 4
  have c5 : w.cell? ⟨N, 5, none⟩ = some (.string after) := by rw [RowIs.cell h]; rfl
  have c6 : w.cell? ⟨N, 6, none⟩ = some (.int .i64 taken) := by rw [RowIs.cell h]; rfl
  have HL : Hid (LexIs w N (.slice none 0 0) s base after taken) := h
  clear h
  obtain rfl : taken = 0 := by subst hss; simpa using ht
  have HNIL : Hid (ss = []) := hss
  have HSZ : Hid (∀ k, sizes ((ss.drop 0).take k) ≤ sizes ss) := fun k => sizes_drop_take ss 0 k
  have HN : Hid (ss.length = 0) := by unfold Hid; rw [hss]; rfl
  rw [HN.out] at hm ht
  clear hss
  have hsl : ∀ wx, (Instr.slice 29 (.slice none 0 0) (some (.int .i64 0)) none none).run Try.prog wx = .ok (.slice none 0 0) wx := fun wx => by
    simp [Instr.slice, Instr.sliceBounds, Instr.sliceBound, asIntOf, run_underlying Try.underlying29, go_sem]
  go_enter Try.func35, Try.ntmps35
  go_wp2_with (go_at_call 37; refine (more_any N _ 0 0 s base after 0 _ HL.out).mono ?_; rintro e w' ⟨rfl, nq0, rfl⟩)
  go_quiet (fail)
  go_upto_block 0 with fail
  generalize hW : ((w.drewN nq0).setCell ⟨N, 4, none⟩ (.int .i64 (wrap64 (base + i)))).drewN nq = W
  have HLW : Hid (LexIs W N (.slice none 0 0) s (wrap64 (base + i)) after 0) := by
    rw [← hW]; exact RowIs.drewN (RowIs.set (RowIs.drewN HL.out _) 4 _) _
  have HBW : Hid (Below N w W) := by
    rw [← hW]; exact below_drewN ((below_drewN (Below.refl N w) nq0).setCell (p := ⟨N, 4, none⟩) (Nat.le_refl _) _) _
  have hNW : N < W.heap.size := by
    have := HBW.out.size; omega
  clear hW
  go_cut [8] from 14 (fun z w' => (∃ zz : Nat, z = .int .i64 zz ∧ zz ≤ 1048576) ∧ w' = W)
  case first =>
    go_wp2
    go_loop [8, 62] (fun z x => x = .int .i64 0 ∧ z = .int .i64 ((s.size - i) + after.size : Nat)) (fun _ x => 0)
    case atStart => exact ⟨rfl, by simp⟩
    case round =>
      obtain ⟨rfl, rfl⟩ := hrel
      go_wp2
      go_meet
      case rel => exact ⟨⟨(s.size - i) + after.size, by go_num, by omega⟩, rfl⟩
  case rest =>
    obtain ⟨⟨zz, rfl, hzz⟩, rfl⟩ := hcut
    have hbk : (wc.alloc (.cells #[.pointer none, .slice none 0 0] 56)).heap[wc.heap.size]? = some (.cells #[.pointer none, .slice none 0 0] 56 (0, 0)) := by
      show (wc.heap.push _)[wc.heap.size]? = _
      simp
    have HBK : Hid ((wc.alloc (.cells #[.pointer none, .slice none 0 0] 56)).heap[wc.heap.size]? = some (.cells #[.pointer none, .slice none 0 0] 56 (0, 0))) := hbk
    clear hbk c1 c2 c4 f4 c5 c6 hsl
    have hmin : min (zz : Int) (nn : Int) = ((min zz nn : Nat) : Int) := by omega
    have HMIN : Hid (min (zz : Int) (nn : Int) = ((min zz nn : Nat) : Int)) := hmin
    clear hmin
    go_wp2_with fail
    rw [HMIN.out]
    refine (Try.Builder_Grow_fresh wc.heap.size wc.heap.size (min zz nn) _ (Nat.le_refl _) HBK.out (by simp) (by omega)).mono ?_
    rintro e w1 ⟨rfl, hbld1, hbel1⟩
    have ST1 : Hid (BrState w N wc.heap.size 0 (.slice none 0 0) s (wrap64 (base + i)) ss [] after 0 w1) :=
      ⟨RowIs.below (RowIs.below HLW.out ((Below.refl _ _).alloc (Nat.le_refl _) _) hNW) hbel1 hNW, fun hs => absurd HNIL.out hs,
        (HBW.out.trans (((Below.refl _ _).alloc (Nat.le_refl _) _).mono (by omega))).trans (hbel1.mono (by omega)), hbld1⟩
    clear hbld1 hbel1 HBK HLW HBW
    generalize hb : wc.heap.size = b at *
    clear hb
    go_wp2_with fail
    refine (Try.Builder_WriteString b b [] (s.extract i s.size) _ (.inr ST1.out.bld) (by simp; omega) (by have := ST1.out.bld.lt; omega)).mono ?_
    rintro e w2 ⟨rfl, hbld2, hbel2⟩
    have ST2 : Hid (BrState w N b 0 (.slice none 0 0) s (wrap64 (base + i)) ss (s.data.toList.drop i) after 0 w2) :=
      ST1.out.wrote (fun hs => absurd HNIL.out hs) hNW (by rw [← Lib.extract_to_end]; exact hbld2) hbel2
    clear hbld2 hbel2 ST1
    go_wp2_with fail
    have KP : Hid (BrKeep (restL s i after ss 0) ss 0 nn (s.data.toList.drop i) after 0) :=
      ⟨rfl, by simp; omega, Nat.le_refl _, by rw [HN.out]; exact ht⟩
    go_loopg [] ((nn - (s.size - i)) + (0 - 0)) (fun k wr => ∃ br after' tk', BrState w N b 0 (.slice none 0 0) s (wrap64 (base + i)) ss br after' tk' wr ∧ BrKeep (restL s i after ss 0) ss 0 nn br after' tk' ∧ k = (nn - br.length) + (0 - tk'))
    case atStart => exact ⟨_, _, _, ST2.out, KP.out, by simp⟩
    case round =>
      obtain ⟨br, af, tk, st, kp, hk⟩ := hrel
      have ST : Hid (BrState w N b 0 (.slice none 0 0) s (wrap64 (base + i)) ss br af tk wr) := st
      have KP2 : Hid (BrKeep (restL s i after ss 0) ss 0 nn br af tk) := kp
      have HK : Hid (gk = (nn - br.length) + (0 - tk)) := hk
      have hbn := kp.le
      have htk := kp.hi
      rw [HN.out] at htk
      clear st kp hk ST2 KP
      by_cases hl : br.length < nn
      · cases hmo : moreB af tk 0
        · go_wp2_with (first
            | (go_at_call 40; refine (len_br ST.out.bld).mono ?_; rintro e w' ⟨rfl, rfl⟩)
            | (go_at_call 37; refine (more_any N _ 0 0 s (wrap64 (base + i)) af tk _ ST.out.lex).mono ?_; rintro e w' ⟨rfl, nq1, rfl⟩))
          have ST5 := ST.out.drewN nq1
          refine (Try.Builder_String_any b b br _ (.inr ST5.bld) (Nat.le_of_lt ST5.bld.lt)).mono ?_
          rintro e w5 ⟨rfl, hbel5⟩
          have d2 : w5.cell? ⟨N, 2, none⟩ = some (.string s) := by rw [RowIs.cell (RowIs.below ST5.lex hbel5 hNW)]; rfl
          have e2 : w5.frozen? ⟨N, 2, none⟩ = false := RowIs.frozen (RowIs.below ST5.lex hbel5 hNW) 2
          have HL5 : Hid (LexIs w5 N (.slice none 0 0) s (wrap64 (base + i)) af tk) := RowIs.below ST5.lex hbel5 hNW
          have HB5 : Hid (Below N w w5 ∧ N < w5.heap.size) := ⟨ST5.bel.trans (hbel5.mono (by omega)), by have := ST5.bld.lt; have := hbel5.size; omega⟩
          have HE5 : Hid (br = (restL s i after ss 0).take nn) := KP2.out.done (.inr (by rw [HN.out]; exact hmo))
          clear hbel5 ST5 ST
          go_wp2
          go_ret
          refine ⟨⟨br.toArray⟩, _, af, tk, 0, rfl, RowIs.set HL5.out 2 _, HB5.out.1.setCell (Nat.le_refl _) _, by simpa using HB5.out.2, .inr ⟨hn, rfl, rfl, KP2.out.lo, KP2.out.hi, ?_, ?_⟩⟩
          · rw [Int.toNat_natCast]; exact HE5.out
          · exact KP2.out.all
        · go_wp2_with (first
              | (go_at_call 40; refine (len_br ST.out.bld).mono ?_; rintro e w' ⟨rfl, rfl⟩)
              | (go_at_call 37; refine (more_any N _ 0 0 s (wrap64 (base + i)) af tk _ ST.out.lex).mono ?_; rintro e w' ⟨rfl, nq1, rfl⟩))
          refine (next_any (ST.out.drewN nq1) HN.out (fun hs => absurd HNIL.out hs) (fun hs => absurd HNIL.out hs) hNW (by omega) htk hmo).mono ?_
          rintro e w3 ⟨x, af2, tk2, rfl, st3, hx, htk1, htk2, hxt⟩
          have ST3 : Hid (BrState w N b 0 (.slice none 0 0) s (wrap64 (base + i)) ss br af2 tk2 w3) := st3
          have HX : Hid (af.data.toList ++ catS (ss.drop tk) = x.data.toList ++ catS (ss.drop tk2)) := hx
          have hTl : br.length + x.size ≤ 1048576 := by
            have h1 := congrArg List.length KP2.out.all
            rw [List.append_assoc, hx] at h1
            have h2 := restL_len s i after ss 0
            have h3 : x.data.toList.length = x.size := by simp
            simp only [List.length_append] at h1
            omega
          clear st3 hx ST
          have hmn : min ((nn : Int) - (br.length : Int)) (x.size : Int) = ((min (nn - br.length) x.size : Nat) : Int) := by omega
          have HMN : Hid (min ((nn : Int) - (br.length : Int)) (x.size : Int) = ((min (nn - br.length) x.size : Nat) : Int)) := hmn
          clear hmn
          go_wp2_with (go_at_call 40; refine (len_br ST3.out.bld).mono ?_; rintro e w' ⟨rfl, rfl⟩)
          rw [HMN.out, Int.toNat_natCast]
          have ht1 : min (nn - br.length) x.size ≤ x.size := Nat.min_le_right _ _
          have ht2 : br.length + min (nn - br.length) x.size ≤ nn := by omega
          have ht3 : 0 < x.size → 0 < min (nn - br.length) x.size := by omega
          generalize min (nn - br.length) x.size = t at *
          clear HMN
          refine (write_br ST3.out.bld (x.extract 0 t) (by rw [len_head x t ht1]; omega)).mono ?_
          rintro e w4 ⟨rfl, hbld4, hbel4⟩
          have ST4 : Hid (BrState w N b 0 (.slice none 0 0) s (wrap64 (base + i)) ss (br ++ (x.extract 0 t).data.toList) af2 tk2 w4) := ST3.out.wrote (fun hs => absurd HNIL.out hs) hNW hbld4 hbel4
          clear hbld4 hbel4 ST3
          have d5 : w4.cell? ⟨N, 5, none⟩ = some (.string af2) := by rw [RowIs.cell ST4.out.lex]; rfl
          have e5 : w4.frozen? ⟨N, 5, none⟩ = false := RowIs.frozen ST4.out.lex 5
          have HT3 : Hid (0 < x.size → 0 < t) := ht3
          have HXT : Hid (0 < x.size ∨ tk < tk2) := hxt
          clear ht3 hxt
          go_wp2
          go_roundg ((nn - (br ++ (x.extract 0 t).data.toList).length) + (0 - tk2))
          case measure =>
            have h1 : (x.extract 0 t).data.toList.length = t := by
              have := len_head x t ht1
              simpa using this
            rw [HK.out, List.length_append, h1]
            rcases HXT.out with h | h
            · have := HT3.out h
              omega
            · omega
          case rel =>
            refine ⟨_, x.extract t x.size, tk2, ST4.out.lexed (fun hs => absurd HNIL.out hs) hNW (RowIs.set ST4.out.lex 5 _) (grown_set _ _ _ _), ?_, rfl⟩
            exact KP2.out.step x t HX.out ht1 ht2 htk1 (by rw [HN.out]; exact htk2)
      · go_wp2_with (go_at_call 40; refine (len_br ST.out.bld).mono ?_; rintro e w' ⟨rfl, rfl⟩)
        have ST5 := ST.out
        refine (Try.Builder_String_any b b br _ (.inr ST5.bld) (Nat.le_of_lt ST5.bld.lt)).mono ?_
        rintro e w5 ⟨rfl, hbel5⟩
        have d2 : w5.cell? ⟨N, 2, none⟩ = some (.string s) := by rw [RowIs.cell (RowIs.below ST5.lex hbel5 hNW)]; rfl
        have e2 : w5.frozen? ⟨N, 2, none⟩ = false := RowIs.frozen (RowIs.below ST5.lex hbel5 hNW) 2
        have HL5 : Hid (LexIs w5 N (.slice none 0 0) s (wrap64 (base + i)) af tk) := RowIs.below ST5.lex hbel5 hNW
        have HB5 : Hid (Below N w w5 ∧ N < w5.heap.size) := ⟨ST5.bel.trans (hbel5.mono (by omega)), by have := ST5.bld.lt; have := hbel5.size; omega⟩
        have HE5 : Hid (br = (restL s i after ss 0).take nn) := KP2.out.done (.inl (by omega))
        clear hbel5 ST5 ST
        go_wp2
        go_ret
        refine ⟨⟨br.toArray⟩, _, af, tk, 0, rfl, RowIs.set HL5.out 2 _, HB5.out.1.setCell (Nat.le_refl _) _, by simpa using HB5.out.2, .inr ⟨hn, rfl, rfl, KP2.out.lo, KP2.out.hi, ?_, ?_⟩⟩
        · rw [Int.toNat_natCast]; exact HE5.out
        · exact KP2.out.all
end Go.Proofs.Qxb6600062a
