/-
  Seat b6600132a: the plain laws of partition.
-/
import Derived.Test.Qxb6600132aPart
namespace Go.Proofs.Qxb6600132a

theorem cd_get (l : List Cd) (i : Nat) (h : i < l.length) : cd l i = l[i] := by simp [cd, List.getD, h]
theorem cd_set (l : List Cd) (i j : Nat) (x : Cd) (hi : i < l.length) : cd (l.set i x) j = if i = j then x else cd l j := by
  unfold cd List.getD
  rw [List.getElem?_set]
  split
  · rename_i h; subst h; simp
  · rfl
theorem cd_swp (l : List Cd) (a b j : Nat) (ha : a < l.length) (hb : b < l.length) : cd (swp l a b) j = if b = j then cd l a else if a = j then cd l b else cd l j := by
  unfold swp
  rw [cd_set _ _ _ _ (by simpa using hb), cd_set _ _ _ _ ha]
theorem swp_perm (l : List Cd) (a b : Nat) (ha : a < l.length) (hb : b < l.length) : (swp l a b).Perm l := by
  unfold swp
  rw [cd_get l a ha, cd_get l b hb]
  exact List.set_set_perm ha hb
theorem med1_perm (l : List Cd) (mid : Nat) (h : mid < l.length) : (med1 l mid).Perm l := by
  unfold med1
  split
  · exact swp_perm l mid 0 h (by omega)
  · exact List.Perm.refl _
theorem med2_perm (l : List Cd) (mid last : Nat) (h : mid < l.length) (h2 : last < l.length) : (med2 l mid last).Perm l := by
  unfold med2
  split
  · exact (med1_perm _ mid (by rw [swp_length]; exact h)).trans (swp_perm l last mid h2 h)
  · exact List.Perm.refl _
theorem med3_perm (l : List Cd) (mid last : Nat) (h : mid < l.length) (h2 : last < l.length) : (med3 l mid last).Perm l := by
  unfold med3
  refine (swp_perm _ mid last (by rw [med2_length, med1_length]; exact h) (by rw [med2_length, med1_length]; exact h2)).trans ?_
  exact (med2_perm _ mid last (by rw [med1_length]; exact h) (by rw [med1_length]; exact h2)).trans (med1_perm l mid h)

/-- What holds after k rounds of partition's loop. -/
structure PInv (L : List Cd) (pv : Cd) (k : Nat) (lk : List Cd) (ak : Nat) : Prop where
  perm : lk.Perm L
  le : ak ≤ k
  yes : ∀ j, j < ak → bef (cd lk j) pv = true
  no : ∀ j, ak ≤ j → j < k → bef (cd lk j) pv = false
  same : ∀ j, k ≤ j → cd lk j = cd L j
theorem pinv (L : List Cd) (pv : Cd) (k : Nat) (hk : k < L.length) : PInv L pv k (partTo L pv k).1 (partTo L pv k).2 := by
  induction k with
  | zero => exact ⟨List.Perm.refl _, Nat.le_refl _, fun j h => absurd h (Nat.not_lt_zero _), fun j _ h => absurd h (Nat.not_lt_zero _), fun j _ => rfl⟩
  | succ k ih =>
    have h := ih (by omega)
    have hlen := partTo_length L pv k
    have e0 : partTo L pv (k + 1) = stepP pv ((partTo L pv k).1, (partTo L pv k).2) k := rfl
    rw [e0]
    clear e0
    generalize (partTo L pv k).1 = lk at *
    generalize (partTo L pv k).2 = ak at *
    unfold stepP
    dsimp only
    cases hb : bef (cd lk k) pv
    · simp only [Bool.false_eq_true, if_false]
      refine ⟨h.perm, Nat.le_succ_of_le h.le, h.yes, fun j h1 h2 => ?_, fun j hj => h.same j (by omega)⟩
      by_cases e : j = k
      · rw [e]; exact hb
      · exact h.no j h1 (by omega)
    · simp only [if_true]
      have hle := h.le
      have hkl : k < lk.length := by omega
      have hal : ak < lk.length := by omega
      refine ⟨(swp_perm lk k ak hkl hal).trans h.perm, by omega, fun j hj => ?_, fun j h1 h2 => ?_, fun j hj => ?_⟩
      · rw [cd_swp lk k ak j hkl hal]
        by_cases e : ak = j
        · rw [if_pos e]; exact hb
        · rw [if_neg e, if_neg (by omega)]; exact h.yes j (by omega)
      · rw [cd_swp lk k ak j hkl hal, if_neg (by omega)]
        by_cases e : k = j
        · rw [if_pos e]; exact h.no ak (Nat.le_refl _) (by omega)
        · rw [if_neg e]; exact h.no j (by omega) (by omega)
      · rw [cd_swp lk k ak j hkl hal, if_neg (by omega), if_neg (by omega)]; exact h.same j (by omega)

theorem filter_count (q : Cd → Bool) (F : List Cd) (p : Nat) (hp : p ≤ F.length) (h1 : ∀ j, j < p → q (cd F j) = true) (h2 : ∀ j, p ≤ j → j < F.length → q (cd F j) = false) : (F.filter q).length = p := by
  induction F generalizing p with
  | nil => simp at hp; simp [hp]
  | cons x F ih =>
    cases p with
    | zero =>
      have hx : q x = false := by simpa [cd] using h2 0 (Nat.le_refl _) (by simp)
      rw [List.filter_cons_of_neg (by simp [hx])]
      refine ih 0 (Nat.zero_le _) (fun j hj => absurd hj (Nat.not_lt_zero _)) (fun j _ hj => ?_)
      have := h2 (j + 1) (Nat.zero_le _) (by simpa using hj)
      simpa [cd] using this
    | succ p =>
      have hx : q x = true := by simpa [cd] using h1 0 (by omega)
      rw [List.filter_cons_of_pos hx, List.length_cons]
      congr 1
      refine ih p (by simpa using hp) (fun j hj => ?_) (fun j h hj => ?_)
      · have := h1 (j + 1) (by omega)
        simpa [cd] using this
      · have := h2 (j + 1) (by omega) (by simpa using hj)
        simpa [cd] using this

/-- The plain law: after partition the list is split around the pivot. -/
structure Splits (l : List Cd) (last : Nat) (F : List Cd) (p : Nat) (pv : Cd) : Prop where
  len : F.length = last + 1
  le : p ≤ last
  here : cd F p = pv
  front : ∀ j, j < p → bef (cd F j) pv = true
  back : ∀ j, p < j → j ≤ last → bef (cd F j) pv = false
  count : (l.filter fun x => bef x pv).length = p
theorem split_law (l : List Cd) (last : Nat) (hl : l.length = last + 1) (L : List Cd) (pv : Cd) (hL : L = med3 l (last / 2) last) (hpv : pv = cd L last) :
    Splits l last (swp (partTo L pv last).1 (partTo L pv last).2 last) (partTo L pv last).2 pv := by
  have hLl : L.length = last + 1 := by rw [hL, med3_length, hl]
  have hLp : L.Perm l := by rw [hL]; exact med3_perm l _ _ (by omega) (by omega)
  have inv := pinv L pv last (by omega)
  have hlen := partTo_length L pv last
  generalize (partTo L pv last).1 = lk at *
  generalize (partTo L pv last).2 = ak at *
  have hle := inv.le
  have hal : ak < lk.length := by omega
  have hll : last < lk.length := by omega
  have hlast : cd lk last = pv := by rw [inv.same last (Nat.le_refl _), hpv]
  have hhere : cd (swp lk ak last) ak = pv := by
    rw [cd_swp lk ak last ak hal hll]
    by_cases e : last = ak
    · rw [if_pos e, ← e]; exact hlast
    · rw [if_neg e, if_pos rfl]; exact hlast
  have hfront : ∀ j, j < ak → bef (cd (swp lk ak last) j) pv = true := fun j hj => by
    rw [cd_swp lk ak last j hal hll, if_neg (by omega), if_neg (by omega)]
    exact inv.yes j hj
  have hback : ∀ j, ak < j → j ≤ last → bef (cd (swp lk ak last) j) pv = false := fun j h1 h2 => by
    rw [cd_swp lk ak last j hal hll]
    by_cases e : last = j
    · rw [if_pos e]; exact inv.no ak (Nat.le_refl _) (by omega)
    · rw [if_neg e, if_neg (by omega)]; exact inv.no j (by omega) (by omega)
  have hFl : (swp lk ak last).length = last + 1 := by rw [swp_length, hlen, hLl]
  refine ⟨hFl, hle, hhere, hfront, hback, ?_⟩
  have hp : (swp lk ak last).Perm l := ((swp_perm lk ak last hal hll).trans inv.perm).trans hLp
  rw [← (hp.filter (fun x => bef x pv)).length_eq]
  refine filter_count _ _ _ (by omega) hfront (fun j h1 h2 => ?_)
  by_cases e : j = ak
  · rw [e, hhere]; exact bef_irrefl pv
  · exact hback j (by omega) (by omega)
end Go.Proofs.Qxb6600132a
