/-
  Seat b6600132a: rows of candidates; partition, walked.
-/
import Derived.Test.Qxb6600132aBefore
import Derived.Deep.RegionHeld3
import Derived.Deep.Cut
import Derived.Deep.CutBlock
namespace Go.Proofs.Qxb6600132a
open Go.RowKit

/-- A row of candidates: three cells each. -/
def Row3 (w : World) (N : Nat) (e : TypeId) (l : List Cd) : Prop := RowIs w N e (l.flatMap Cd.cells)
def dfl : Cd := ⟨0, 0, 0⟩
/-- The i-th candidate. -/
def cd (l : List Cd) (i : Nat) : Cd := l.getD i dfl
theorem flat_at (l : List Cd) (i : Nat) (h : i < l.length) : (l.flatMap Cd.cells)[i * 3]? = some (.int .i64 (cd l i).c) ∧ (l.flatMap Cd.cells)[i * 3 + 1]? = some (.int .i64 (cd l i).p) ∧
    (l.flatMap Cd.cells)[i * 3 + 2]? = some (.int .i64 (cd l i).a) := by
  induction l generalizing i with
  | nil => simp at h
  | cons x l ih =>
    cases i with
    | zero => simp [Cd.cells, cd]
    | succ i =>
      have := ih i (by simpa using h)
      have e1 : (i + 1) * 3 = i * 3 + 3 := by omega
      have e2 : (i + 1) * 3 + 1 = i * 3 + 1 + 3 := by omega
      have e3 : (i + 1) * 3 + 2 = i * 3 + 2 + 3 := by omega
      rw [e2, e3, e1]
      simpa [Cd.cells, cd] using this
theorem Row3.at {w : World} {N : Nat} {e : TypeId} {l : List Cd} (h : Row3 w N e l) (i : Nat) (hi : i < l.length) :
    w.cell? ⟨N, i * 3, none⟩ = some (.int .i64 (cd l i).c) ∧ w.cell? ⟨N, i * 3 + 1, none⟩ = some (.int .i64 (cd l i).p) ∧ w.cell? ⟨N, i * 3 + 2, none⟩ = some (.int .i64 (cd l i).a) := by
  obtain ⟨h1, h2, h3⟩ := flat_at l i hi
  exact ⟨by rw [RowIs.cell h]; exact h1, by rw [RowIs.cell h]; exact h2, by rw [RowIs.cell h]; exact h3⟩

theorem bcell {W w1 : World} (hb : Below W.heap.size W w1) : (∀ b o, b < W.heap.size → w1.cell? ⟨b, o, none⟩ = W.cell? ⟨b, o, none⟩) ∧ (∀ b o, b < W.heap.size → w1.frozen? ⟨b, o, none⟩ = W.frozen? ⟨b, o, none⟩) :=
  ⟨fun b o h => hb.cell (p := ⟨b, o, none⟩) h, fun b o h => hb.frozen (p := ⟨b, o, none⟩) h⟩


/-- 'c[a], c[b] = c[b], c[a]'. -/
def swp (l : List Cd) (a b : Nat) : List Cd := (l.set a (cd l b)).set b (cd l a)
def med1 (l : List Cd) (mid : Nat) : List Cd := if bef (cd l mid) (cd l 0) then swp l mid 0 else l
def med2 (l : List Cd) (mid last : Nat) : List Cd := if bef (cd l last) (cd l mid) then med1 (swp l last mid) mid else l
def med3 (l : List Cd) (mid last : Nat) : List Cd := swp (med2 (med1 l mid) mid last) mid last
def stepP (pv : Cd) (s : List Cd × Nat) (i : Nat) : List Cd × Nat := if bef (cd s.1 i) pv then (swp s.1 i s.2, s.2 + 1) else s
def partTo (l : List Cd) (pv : Cd) : Nat → List Cd × Nat
  | 0 => (l, 0)
  | k + 1 => stepP pv (partTo l pv k) k

theorem swp_length (l : List Cd) (a b : Nat) : (swp l a b).length = l.length := by simp [swp]
theorem med1_length (l : List Cd) (mid : Nat) : (med1 l mid).length = l.length := by unfold med1; split <;> simp [swp_length]
theorem med2_length (l : List Cd) (mid last : Nat) : (med2 l mid last).length = l.length := by unfold med2; split <;> simp [swp_length, med1_length]
theorem med3_length (l : List Cd) (mid last : Nat) : (med3 l mid last).length = l.length := by unfold med3; simp [swp_length, med2_length, med1_length]
theorem partTo_length (l : List Cd) (pv : Cd) (k : Nat) : (partTo l pv k).1.length = l.length := by
  induction k with
  | zero => rfl
  | succ k ih => unfold partTo stepP; split <;> simp [swp_length, ih]
theorem partTo_le (l : List Cd) (pv : Cd) (k : Nat) : (partTo l pv k).2 ≤ k := by
  induction k with
  | zero => exact Nat.le_refl _
  | succ k ih =>
    unfold partTo stepP
    split
    · simp only; omega
    · omega

theorem flat_set (l : List Cd) (i : Nat) (x : Cd) : (l.set i x).flatMap Cd.cells = (((l.flatMap Cd.cells).set (i * 3) (.int .i64 x.c)).set (i * 3 + 1) (.int .i64 x.p)).set (i * 3 + 2) (.int .i64 x.a) := by
  induction l generalizing i with
  | nil => simp
  | cons y l ih =>
    cases i with
    | zero => simp [Cd.cells]
    | succ i =>
      have e1 : (i + 1) * 3 = i * 3 + 3 := by omega
      have e2 : (i + 1) * 3 + 1 = i * 3 + 1 + 3 := by omega
      have e3 : (i + 1) * 3 + 2 = i * 3 + 2 + 3 := by omega
      rw [e2, e3, e1]
      simp [Cd.cells, ih]
/-- The three cells of a candidate, stored. -/
def put3 (w : World) (N o : Nat) (x : Cd) : World := ((w.setCell ⟨N, o, none⟩ (.int .i64 x.c)).setCell ⟨N, o + 1, none⟩ (.int .i64 x.p)).setCell ⟨N, o + 2, none⟩ (.int .i64 x.a)
theorem Row3.put {w : World} {N : Nat} {e : TypeId} {l : List Cd} (h : Row3 w N e l) (i o : Nat) (ho : o = i * 3) (x : Cd) : Row3 (put3 w N o x) N e (l.set i x) := by
  subst ho
  unfold Row3
  rw [flat_set]
  exact ((RowIs.set h _ _).set _ _).set _ _
theorem below_put3 {B : Nat} {a w : World} (h : Below B a w) (N o : Nat) (x : Cd) (hN : B ≤ N) : Below B a (put3 w N o x) := below_put (below_put (below_put h _ _ _ hN) _ _ _ hN) _ _ _ hN
theorem size_put3 (w : World) (N o : Nat) (x : Cd) : (put3 w N o x).heap.size = w.heap.size := by simp [put3]

/-- The partition under way. -/
structure PSt (w0 : World) (N last : Nat) (l : List Cd) (w : World) : Prop where
  row : Row3 w N 44 l
  bel : Below N w0 w
  lt : N < w.heap.size
  len : l.length = last + 1
section
variable {w0 w w' : World} {N last : Nat} {l : List Cd}
theorem PSt.called (h : PSt w0 N last l w) (hb : Below w.drew.heap.size w.drew w') : PSt w0 N last l w' :=
  ⟨RowIs.below (w := w.drew) h.row hb h.lt, h.bel.drew.trans (hb.mono (Nat.le_of_lt h.lt)), Nat.lt_of_lt_of_le h.lt hb.size, h.len⟩
theorem RowIs.drew1 {w : World} {N : Nat} {e : TypeId} {cs : List Value} (h : RowIs w N e cs) : RowIs w.drew N e cs := h
theorem PSt.swapped (h : PSt w0 N last l w) (a b oa ob : Nat) (ha : oa = a * 3) (hb : ob = b * 3) : PSt w0 N last (swp l a b) (put3 (put3 w N oa (cd l b)) N ob (cd l a)).drew :=
  ⟨RowIs.drew1 (Row3.put (Row3.put h.row a oa ha (cd l b)) b ob hb (cd l a)), (below_put3 (below_put3 h.bel N oa (cd l b) (Nat.le_refl _)) N ob (cd l a) (Nat.le_refl _)).drew,
    by rw [World.size_drew, size_put3, size_put3]; exact h.lt, by rw [swp_length]; exact h.len⟩
theorem PSt.at (h : PSt w0 N last l w) (i : Nat) (hi : i ≤ last) :
    w.cell? ⟨N, i * 3, none⟩ = some (.int .i64 (cd l i).c) ∧ w.cell? ⟨N, i * 3 + 1, none⟩ = some (.int .i64 (cd l i).p) ∧ w.cell? ⟨N, i * 3 + 2, none⟩ = some (.int .i64 (cd l i).a) := h.row.at i (by rw [h.len]; omega)
theorem PSt.at0 (h : PSt w0 N last l w) :
    w.cell? ⟨N, 0, none⟩ = some (.int .i64 (cd l 0).c) ∧ w.cell? ⟨N, 1, none⟩ = some (.int .i64 (cd l 0).p) ∧ w.cell? ⟨N, 2, none⟩ = some (.int .i64 (cd l 0).a) := by
  have := h.at 0 (Nat.zero_le _)
  simpa using this
theorem row_put6 {w : World} {N P : Nat} {e : TypeId} {cs : List Value} (h : RowIs w P e cs) (hne : P ≠ N) (oa ob : Nat) (x y : Cd) : RowIs (put3 (put3 w N oa x) N ob y).drew P e cs :=
  RowIs.drew1 ((((((h.other ⟨N, oa, none⟩ _ hne).other ⟨N, oa + 1, none⟩ _ hne).other ⟨N, oa + 2, none⟩ _ hne).other ⟨N, ob, none⟩ _ hne).other ⟨N, ob + 1, none⟩ _ hne).other ⟨N, ob + 2, none⟩ _ hne)
theorem PSt.alloc (h : PSt w0 N last l w) (o : Obj) : PSt w0 N last l (w.alloc o) :=
  ⟨RowIs.below h.row ((Below.refl _ _).alloc (Nat.le_refl _) o) h.lt, h.bel.alloc (Nat.le_of_lt h.lt) o, by simp; have := h.lt; omega, h.len⟩
theorem PSt.fz (h : PSt w0 N last l w) (o : Nat) : w.frozen? ⟨N, o, none⟩ = false := RowIs.frozen h.row o
end

/-- What partition leaves, and what it answers. -/
def PartPost (w : World) (N last : Nat) (l : List Cd) (e : Ending) (w' : World) : Prop :=
  ∃ (pv : Cd) (L : List Cd), L = med3 l (last / 2) last ∧ pv = cd L last ∧ e = .returned (.int .i64 ((partTo L pv last).2 : Nat)) ∧ Below N w w' ∧ Row3 w' N 44 (swp (partTo L pv last).1 (partTo L pv last).2 last)
set_option maxRecDepth 100000 in
set_option maxHeartbeats 4000000 in
theorem partition_any (N last : Nat) (l : List Cd) (w : World) (h : Row3 w N 44 l) (hl : l.length = last + 1) (hm : last < 16384) (hN : N < w.heap.size) :
    Calls Try.prog 21 #[.slice (some ⟨N, 0, none⟩) (last + 1) (last + 1)] w (PartPost w N last l) := by
  have ST : Hid (PSt w N last l w) := ⟨h, Below.refl _ _, hN, hl⟩
  clear h hl hN
  go_enter Try.func21, Try.ntmps21
  go_wp2
  rw [show ((last : Int) / 2) = ((last / 2 : Nat) : Int) from by omega]
  have hml : last / 2 ≤ last := Nat.div_le_self _ _
  have HMD : Hid (∃ mid, mid = last / 2) := ⟨_, rfl⟩
  generalize hmid : last / 2 = mid at *
  have HMID : Hid (last / 2 = mid) := hmid
  clear hmid HMD
  have i1 : (mid : Int) < (last : Int) + 1 := by omega
  have i2 : (0 : Int) < (last : Int) + 1 := by omega
  have i3 : (0 : Int) ≤ (mid : Int) := by omega
  have i4 : (last : Int) < (last : Int) + 1 := by omega
  have i5 : (0 : Int) ≤ (last : Int) := by omega
  have hlt := ST.out.lt
  obtain ⟨ca0, ca1, ca2⟩ := ST.out.at mid (by omega)
  obtain ⟨cb0, cb1, cb2⟩ := ST.out.at0
  go_region_held3 (fun w' => w'.cell? ⟨N, mid * 3, none⟩ = some (.int .i64 (cd l mid).c) ∧ w'.cell? ⟨N, mid * 3 + 1, none⟩ = some (.int .i64 (cd l mid).p) ∧ w'.cell? ⟨N, mid * 3 + 2, none⟩ = some (.int .i64 (cd l mid).a) ∧ w'.cell? ⟨N, 0, none⟩ = some (.int .i64 (cd l 0).c) ∧ w'.cell? ⟨N, 1, none⟩ = some (.int .i64 (cd l 0).p) ∧ w'.cell? ⟨N, 2, none⟩ = some (.int .i64 (cd l 0).a)) ((first | (go_keep; done) | (refine ⟨?_, ?_, ?_, ?_, ?_, ?_⟩ <;> (refine (hc _ _ hlt).trans ?_; simp only [World.cell?_drew]; assumption))))
    (first | (go_at_call 24; refine (before_any (cd l mid) (cd l 0) _).mono ?_; rintro e w1 ⟨rfl, hb⟩; obtain ⟨hc, hf⟩ := bcell hb))
  have ST' := ST.out.called hb
  have ST1 : Hid (PSt w N last l w1) := ST'
  clear ST' hb ca0 ca1 ca2 cb0 cb1 cb2 hlt
  go_upto_if 20 with fail
  go_cut [] from 8 (fun w' => PSt w N last (med1 l mid) w')
  case first =>
    cases hbf : bef (cd l mid) (cd l 0)
    · have HE : Hid (med1 l mid = l) := by unfold Hid med1; rw [hbf]; rfl
      go_wp2
      go_meet
      case rel => rw [HE.out]; exact ST1.out
    · have HE : Hid (med1 l mid = swp l mid 0) := by unfold Hid med1; rw [hbf]; rfl
      have hm0 : 0 < mid := by
        rcases Nat.eq_zero_or_pos mid with h | h
        · rw [h, bef_irrefl] at hbf; cases hbf
        · exact h
      obtain ⟨ca0, ca1, ca2⟩ := ST1.out.at mid (by omega)
      obtain ⟨cb0, cb1, cb2⟩ := ST1.out.at0
      have fa0 := ST1.out.fz (mid * 3)
      have fa1 := ST1.out.fz (mid * 3 + 1)
      have fa2 := ST1.out.fz (mid * 3 + 2)
      have fb0 := ST1.out.fz (0)
      have fb1 := ST1.out.fz (1)
      have fb2 := ST1.out.fz (2)
      go_wp2
      go_region
      go_wp2
      go_meet
      case rel => rw [HE.out]; exact ST1.out.swapped mid 0 _ _ rfl rfl
  case rest =>
    have ST2 : Hid (PSt w N last (med1 l mid) wc) := hcut
    clear hcut ST ST1
    have HL1 : Hid (∃ l1, med1 l mid = l1) := ⟨_, rfl⟩
    generalize hl1 : med1 l mid = l1 at *
    have HE1 : Hid (med1 l mid = l1) := hl1
    clear hl1 HL1
    go_wp2
    have hlt := ST2.out.lt
    obtain ⟨ca0, ca1, ca2⟩ := ST2.out.at last (by omega)
    obtain ⟨cb0, cb1, cb2⟩ := ST2.out.at mid (by omega)
    go_region_held3 (fun w' => w'.cell? ⟨N, last * 3, none⟩ = some (.int .i64 (cd l1 last).c) ∧ w'.cell? ⟨N, last * 3 + 1, none⟩ = some (.int .i64 (cd l1 last).p) ∧ w'.cell? ⟨N, last * 3 + 2, none⟩ = some (.int .i64 (cd l1 last).a) ∧ w'.cell? ⟨N, mid * 3, none⟩ = some (.int .i64 (cd l1 mid).c) ∧ w'.cell? ⟨N, mid * 3 + 1, none⟩ = some (.int .i64 (cd l1 mid).p) ∧ w'.cell? ⟨N, mid * 3 + 2, none⟩ = some (.int .i64 (cd l1 mid).a)) ((first | (go_keep; done) | (refine ⟨?_, ?_, ?_, ?_, ?_, ?_⟩ <;> (refine (hc _ _ hlt).trans ?_; simp only [World.cell?_drew]; assumption))))
      (first | (go_at_call 24; refine (before_any (cd l1 last) (cd l1 mid) _).mono ?_; rintro e w2 ⟨rfl, hb⟩; obtain ⟨hc, hf⟩ := bcell hb))
    have ST2' := ST2.out.called hb
    have ST3 : Hid (PSt w N last l1 w2) := ST2'
    clear ST2' hb ca0 ca1 ca2 cb0 cb1 cb2 hlt ST2
    go_upto_if 41 with fail
    go_cut [] from 8 (fun w' => PSt w N last (med2 l1 mid last) w')
    case first =>
      cases hbf : bef (cd l1 last) (cd l1 mid)
      · have HE : Hid (med2 l1 mid last = l1) := by unfold Hid med2; rw [hbf]; rfl
        go_wp2
        go_meet
        case rel => rw [HE.out]; exact ST3.out
      · have HE : Hid (med2 l1 mid last = med1 (swp l1 last mid) mid) := by unfold Hid med2; rw [hbf]; rfl
        have hm1 : mid < last := by
          rcases Nat.lt_or_ge mid last with h | h
          · exact h
          · have : last = mid := by omega
            rw [this, bef_irrefl] at hbf; cases hbf
        go_wp2
        go_cut [] from 8 (fun w' => PSt w N last (swp l1 last mid) w')
        case first =>
          obtain ⟨ca0, ca1, ca2⟩ := ST3.out.at last (by omega)
          obtain ⟨cb0, cb1, cb2⟩ := ST3.out.at mid (by omega)
          have fa0 := ST3.out.fz (last * 3)
          have fa1 := ST3.out.fz (last * 3 + 1)
          have fa2 := ST3.out.fz (last * 3 + 2)
          have fb0 := ST3.out.fz (mid * 3)
          have fb1 := ST3.out.fz (mid * 3 + 1)
          have fb2 := ST3.out.fz (mid * 3 + 2)
          go_region
          go_wp2
          go_meet
          case rel => exact ST3.out.swapped last mid _ _ rfl rfl
        case rest =>
          have ST4 : Hid (PSt w N last (swp l1 last mid) wc) := hcut
          clear hcut ST3 hbf
          generalize swp l1 last mid = l2 at *
          go_wp2
          have hlt := ST4.out.lt
          obtain ⟨ca0, ca1, ca2⟩ := ST4.out.at mid (by omega)
          obtain ⟨cb0, cb1, cb2⟩ := ST4.out.at0
          go_region_held3 (fun w' => w'.cell? ⟨N, mid * 3, none⟩ = some (.int .i64 (cd l2 mid).c) ∧ w'.cell? ⟨N, mid * 3 + 1, none⟩ = some (.int .i64 (cd l2 mid).p) ∧ w'.cell? ⟨N, mid * 3 + 2, none⟩ = some (.int .i64 (cd l2 mid).a) ∧ w'.cell? ⟨N, 0, none⟩ = some (.int .i64 (cd l2 0).c) ∧ w'.cell? ⟨N, 1, none⟩ = some (.int .i64 (cd l2 0).p) ∧ w'.cell? ⟨N, 2, none⟩ = some (.int .i64 (cd l2 0).a)) ((first | (go_keep; done) | (refine ⟨?_, ?_, ?_, ?_, ?_, ?_⟩ <;> (refine (hc _ _ hlt).trans ?_; simp only [World.cell?_drew]; assumption))))
            (first | (go_at_call 24; refine (before_any (cd l2 mid) (cd l2 0) _).mono ?_; rintro e w3 ⟨rfl, hb⟩; obtain ⟨hc, hf⟩ := bcell hb))
          have ST4' := ST4.out.called hb
          have ST5 : Hid (PSt w N last l2 w3) := ST4'
          clear ST4' hb ca0 ca1 ca2 cb0 cb1 cb2 hlt ST4
          cases hbf : bef (cd l2 mid) (cd l2 0)
          · have HE2 : Hid (med1 l2 mid = l2) := by unfold Hid med1; rw [hbf]; rfl
            go_wp2
            go_meet
            case rel => rw [HE.out, HE2.out]; exact ST5.out
          · have HE2 : Hid (med1 l2 mid = swp l2 mid 0) := by unfold Hid med1; rw [hbf]; rfl
            have hm0 : 0 < mid := by
              rcases Nat.eq_zero_or_pos mid with h | h
              · rw [h, bef_irrefl] at hbf; cases hbf
              · exact h
            obtain ⟨ca0, ca1, ca2⟩ := ST5.out.at mid (by omega)
            obtain ⟨cb0, cb1, cb2⟩ := ST5.out.at0
            have fa0 := ST5.out.fz (mid * 3)
            have fa1 := ST5.out.fz (mid * 3 + 1)
            have fa2 := ST5.out.fz (mid * 3 + 2)
            have fb0 := ST5.out.fz (0)
            have fb1 := ST5.out.fz (1)
            have fb2 := ST5.out.fz (2)
            go_wp2
            go_region
            go_wp2
            go_meet
            case rel => rw [HE.out, HE2.out]; exact ST5.out.swapped mid 0 _ _ rfl rfl
    case rest =>
      have ST6 : Hid (PSt w N last (med2 l1 mid last) wc) := hcut
      clear hcut ST3
      generalize hl2 : med2 l1 mid last = l2 at *
      have HE2 : Hid (med2 l1 mid last = l2) := hl2
      clear hl2
      go_wp2
      go_cut [] from 8 (fun w' => PSt w N last (swp l2 mid last) w')
      case first =>
        by_cases hml2 : mid = last
        · subst hml2
          obtain ⟨ca0, ca1, ca2⟩ := ST6.out.at mid (by omega)
          have fa0 := ST6.out.fz (mid * 3)
          have fa1 := ST6.out.fz (mid * 3 + 1)
          have fa2 := ST6.out.fz (mid * 3 + 2)
          go_region
          go_wp2
          go_meet
          case rel => exact ST6.out.swapped mid mid _ _ rfl rfl
        · have hml3 : mid < last := by omega
          obtain ⟨ca0, ca1, ca2⟩ := ST6.out.at mid (by omega)
          obtain ⟨cb0, cb1, cb2⟩ := ST6.out.at last (by omega)
          have fa0 := ST6.out.fz (mid * 3)
          have fa1 := ST6.out.fz (mid * 3 + 1)
          have fa2 := ST6.out.fz (mid * 3 + 2)
          have fb0 := ST6.out.fz (last * 3)
          have fb1 := ST6.out.fz (last * 3 + 1)
          have fb2 := ST6.out.fz (last * 3 + 2)
          go_region
          go_wp2
          go_meet
          case rel => exact ST6.out.swapped mid last _ _ rfl rfl
      case rest =>
        have ST7 : Hid (PSt w N last (swp l2 mid last) wc) := hcut
        clear hcut ST6
        have HE3 : Hid (swp l2 mid last = med3 l mid last) := by unfold Hid med3; rw [HE1.out, HE2.out]
        generalize swp l2 mid last = L at *
        obtain ⟨ca0, ca1, ca2⟩ := ST7.out.at last (Nat.le_refl _)
        go_wp2
        have hPN : N < wc.heap.size := ST7.out.lt
        have ST8 : Hid (PSt w N last L (wc.alloc (.cells (cd L last).cells.toArray 44))) := ST7.out.alloc _
        have RP : Hid (RowIs (wc.alloc (.cells (cd L last).cells.toArray 44)) wc.heap.size 44 (cd L last).cells) := row_new _ _ _
        clear ca0 ca1 ca2 ST7
        generalize hpv : cd L last = pv at *
        have HPV : Hid (cd L last = pv) := hpv
        clear hpv
        go_loopw [6, 98] (fun at' x w' => ∃ k : Nat, k ≤ last ∧ x = .int .i64 k ∧ at' = .int .i64 (partTo L pv k).2 ∧ PSt w N last (partTo L pv k).1 w' ∧ RowIs w' wc.heap.size 44 pv.cells ∧ wc.heap.size < w'.heap.size) (fun _ x _ => last - (intOf x).toNat)
        case atStart => exact ⟨0, Nat.zero_le _, rfl, rfl, ST8.out, RP.out, by simp⟩
        case round =>
          obtain ⟨k, hk, rfl, rfl, hst, hrp, hltP⟩ := hrel
          have ST9 : Hid (PSt w N last (partTo L pv k).1 wr) := hst
          have RP9 : Hid (RowIs wr wc.heap.size 44 pv.cells) := hrp
          clear hst hrp ST8 RP
          have hak := partTo_le L pv k
          have HS : Hid (partTo L pv (k + 1) = stepP pv ((partTo L pv k).1, (partTo L pv k).2) k) := rfl
          have HQ : Hid (partTo L pv k = ((partTo L pv k).1, (partTo L pv k).2)) := rfl
          generalize (partTo L pv k).1 = lk at *
          generalize (partTo L pv k).2 = at' at *
          have j1 : (k : Int) < (last : Int) + 1 := by omega
          have j2 : (0 : Int) ≤ (k : Int) := by omega
          have j3 : (at' : Int) < (last : Int) + 1 := by omega
          have j4 : (0 : Int) ≤ (at' : Int) := by omega
          have j5 : at' ≤ last := by omega
          by_cases hlt2 : k < last
          · have hlt := ST9.out.lt
            obtain ⟨ca0, ca1, ca2⟩ := ST9.out.at k (by omega)
            obtain ⟨cb0, cb1, cb2⟩ := RP9.out.three
            go_wp2
            go_region_held3 (fun w' => w'.cell? ⟨N, k * 3, none⟩ = some (.int .i64 (cd lk k).c) ∧ w'.cell? ⟨N, k * 3 + 1, none⟩ = some (.int .i64 (cd lk k).p) ∧ w'.cell? ⟨N, k * 3 + 2, none⟩ = some (.int .i64 (cd lk k).a) ∧ w'.cell? ⟨wc.heap.size, 0, none⟩ = some (.int .i64 pv.c) ∧ w'.cell? ⟨wc.heap.size, 1, none⟩ = some (.int .i64 pv.p) ∧ w'.cell? ⟨wc.heap.size, 2, none⟩ = some (.int .i64 pv.a)) ((first | (go_keep; done) | (refine ⟨?_, ?_, ?_, ?_, ?_, ?_⟩ <;> (refine (hc _ _ (by first | exact hlt | exact hltP)).trans ?_; simp only [World.cell?_drew]; assumption))))
              (first | (go_at_call 24; refine (before_any (cd lk k) pv _).mono ?_; rintro e w4 ⟨rfl, hb⟩; obtain ⟨hc, hf⟩ := bcell hb))
            have ST10 : Hid (PSt w N last lk w4) := ST9.out.called hb
            have RP10 : Hid (RowIs w4 wc.heap.size 44 pv.cells) := RowIs.below (w := wr.drew) RP9.out hb hltP
            have hltP4 : wc.heap.size < w4.heap.size := Nat.lt_of_lt_of_le hltP hb.size
            clear hb ca0 ca1 ca2 cb0 cb1 cb2 hlt hltP ST9 RP9
            cases hbf : bef (cd lk k) pv
            · have HN : Hid (partTo L pv (k + 1) = (lk, at')) := by unfold Hid; rw [HS.out]; unfold stepP; rw [hbf]; rfl
              go_wp2
              go_roundw
              case rel => exact ⟨k + 1, by omega, by go_num, by rw [HN.out], by rw [HN.out]; exact ST10.out, RP10.out, hltP4⟩
              case measure => simp [intOf]; omega
            · have HN : Hid (partTo L pv (k + 1) = (swp lk k at', at' + 1)) := by unfold Hid; rw [HS.out]; unfold stepP; rw [hbf]; rfl
              by_cases hka : at' = k
              · subst hka
                obtain ⟨ca0, ca1, ca2⟩ := ST10.out.at at' (by omega)
                have fa0 := ST10.out.fz (at' * 3)
                have fa1 := ST10.out.fz (at' * 3 + 1)
                have fa2 := ST10.out.fz (at' * 3 + 2)
                go_wp2
                go_region
                go_wp2
                exact ⟨⟨at' + 1, by omega, by go_num, by rw [HN.out]; go_num, by rw [HN.out]; exact ST10.out.swapped at' at' _ _ rfl rfl, row_put6 RP10.out (by omega) (at' * 3) (at' * 3) (cd lk at') (cd lk at'), by simpa using hltP4⟩, by simp [intOf]; omega⟩
              · have hka2 : at' < k := by omega
                obtain ⟨ca0, ca1, ca2⟩ := ST10.out.at k (by omega)
                obtain ⟨cb0, cb1, cb2⟩ := ST10.out.at at' (by omega)
                have fa0 := ST10.out.fz (k * 3)
                have fa1 := ST10.out.fz (k * 3 + 1)
                have fa2 := ST10.out.fz (k * 3 + 2)
                have fb0 := ST10.out.fz (at' * 3)
                have fb1 := ST10.out.fz (at' * 3 + 1)
                have fb2 := ST10.out.fz (at' * 3 + 2)
                go_wp2
                go_region
                go_wp2
                exact ⟨⟨k + 1, by omega, by go_num, by rw [HN.out]; go_num, by rw [HN.out]; exact ST10.out.swapped k at' _ _ rfl rfl, row_put6 RP10.out (by omega) (k * 3) (at' * 3) (cd lk at') (cd lk k), by simpa using hltP4⟩, by simp [intOf]; omega⟩
          · obtain rfl : k = last := by omega
            have HFIN : Hid (∀ W, PSt w N k (swp lk at' k) W → PartPost w N k l (.returned (.int .i64 (at' : Nat))) W) := fun W hst =>
              ⟨pv, L, by rw [HE3.out, HMID.out], HPV.out.symm, by rw [HQ.out], hst.bel, by rw [HQ.out]; exact hst.row⟩
            by_cases hka : at' = k
            · subst hka
              obtain ⟨ca0, ca1, ca2⟩ := ST9.out.at at' (by omega)
              have fa0 := ST9.out.fz (at' * 3)
              have fa1 := ST9.out.fz (at' * 3 + 1)
              have fa2 := ST9.out.fz (at' * 3 + 2)
              go_wp2
              go_region
              go_wp2
              go_ret
              exact HFIN.out _ (ST9.out.swapped at' at' _ _ rfl rfl)
            · have hka2 : at' < k := by omega
              obtain ⟨ca0, ca1, ca2⟩ := ST9.out.at at' (by omega)
              obtain ⟨cb0, cb1, cb2⟩ := ST9.out.at k (by omega)
              have fa0 := ST9.out.fz (at' * 3)
              have fa1 := ST9.out.fz (at' * 3 + 1)
              have fa2 := ST9.out.fz (at' * 3 + 2)
              have fb0 := ST9.out.fz (k * 3)
              have fb1 := ST9.out.fz (k * 3 + 1)
              have fb2 := ST9.out.fz (k * 3 + 2)
              go_wp2
              go_region
              go_wp2
              go_ret
              exact HFIN.out _ (ST9.out.swapped at' k _ _ rfl rfl)
end Go.Proofs.Qxb6600132a
