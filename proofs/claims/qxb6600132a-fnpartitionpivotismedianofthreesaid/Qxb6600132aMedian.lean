/-
  Seat b6600132a: the plain law of the median of three.
-/
import Derived.Test.Qxb6600132aLaws
namespace Go.Proofs.Qxb6600132a

theorem bef_trans (x y z : Cd) (h1 : bef x y = true) (h2 : bef y z = true) : bef x z = true := by
  obtain ⟨c, p, a⟩ := x; obtain ⟨d, q, b⟩ := y; obtain ⟨e, r, f⟩ := z
  unfold bef at *
  dsimp only at *
  repeat' split at h1
  all_goals (repeat' split at h2)
  all_goals (repeat' split)
  all_goals simp only [decide_eq_true_eq] at *
  all_goals omega

/-- 0 or 1. -/
def one (b : Bool) : Nat := if b then 1 else 0
/-- How many of the three places come before v; a place counts where it is its own. -/
def nBel (l : List Cd) (mid last : Nat) (v : Cd) : Nat := one (bef (cd l 0) v) + (if mid = 0 then 0 else one (bef (cd l mid) v)) + (if last = 0 then 0 else one (bef (cd l last) v))
def nAbv (l : List Cd) (mid last : Nat) (v : Cd) : Nat := one (bef v (cd l 0)) + (if mid = 0 then 0 else one (bef v (cd l mid))) + (if last = 0 then 0 else one (bef v (cd l last)))

/-- The plain law of the median of three, over values alone. -/
theorem med_vals (x y z : Cd) (v : Cd) (hv : v = (
      let x1 := if bef y x then y else x
      let y1 := if bef y x then x else y
      if bef z y1 then (if bef z x1 then x1 else z) else y1)) :
    (v = x ∨ v = y ∨ v = z) ∧ one (bef x v) + one (bef y v) + one (bef z v) ≤ 1 ∧ one (bef v x) + one (bef v y) + one (bef v z) ≤ 1 := by
  have ixx := bef_irrefl x
  have iyy := bef_irrefl y
  have izz := bef_irrefl z
  have axy := bef_asymm x y
  have ayx := bef_asymm y x
  have axz := bef_asymm x z
  have azx := bef_asymm z x
  have ayz := bef_asymm y z
  have azy := bef_asymm z y
  have t1 := bef_trans x y z
  have t2 := bef_trans x z y
  have t3 := bef_trans y x z
  have t4 := bef_trans y z x
  have t5 := bef_trans z x y
  have t6 := bef_trans z y x
  have e1 := bef_total x y
  have e2 := bef_total x z
  have e3 := bef_total y z
  dsimp only at hv
  cases hyx : bef y x <;> cases hxy : bef x y <;> cases hxz : bef x z <;> cases hzx : bef z x <;> cases hyz : bef y z <;> cases hzy : bef z y <;> simp_all [one]
theorem cd_med1_mid (l : List Cd) (mid : Nat) (h : mid < l.length) : cd (med1 l mid) mid = if bef (cd l mid) (cd l 0) then cd l 0 else cd l mid := by
  unfold med1
  split
  · rw [cd_swp l mid 0 mid h (by omega)]
    by_cases e : 0 = mid
    · rw [if_pos e, ← e]
    · rw [if_neg e, if_pos rfl]
  · rfl
theorem cd_med1_0 (l : List Cd) (mid : Nat) (h : mid < l.length) : cd (med1 l mid) 0 = if bef (cd l mid) (cd l 0) then cd l mid else cd l 0 := by
  unfold med1
  split
  · rw [cd_swp l mid 0 0 h (by omega), if_pos rfl]
  · rfl
theorem cd_med1_other (l : List Cd) (mid j : Nat) (h : mid < l.length) (h0 : 0 ≠ j) (hj : mid ≠ j) : cd (med1 l mid) j = cd l j := by
  unfold med1
  split
  · rw [cd_swp l mid 0 j h (by omega), if_neg h0, if_neg hj]
  · rfl
theorem cd_med3_last (l : List Cd) (mid last : Nat) (h : mid < l.length) (h2 : last < l.length) : cd (med3 l mid last) last = cd (med2 (med1 l mid) mid last) mid := by
  unfold med3
  rw [cd_swp _ mid last last (by rw [med2_length, med1_length]; exact h) (by rw [med2_length, med1_length]; exact h2), if_pos rfl]
theorem cd_med2_mid (l : List Cd) (mid last : Nat) :
    cd (med2 l mid last) mid = if bef (cd l last) (cd l mid) then cd (med1 (swp l last mid) mid) mid else cd l mid := by
  unfold med2
  split <;> rfl

theorem median_law (l : List Cd) (last : Nat) (hl : l.length = last + 1) (v : Cd) (hv : v = cd (med3 l (last / 2) last) last) :
    (v = cd l 0 ∨ (last / 2 ≠ 0 ∧ v = cd l (last / 2)) ∨ (last ≠ 0 ∧ v = cd l last)) ∧ nBel l (last / 2) last v ≤ 1 ∧ nAbv l (last / 2) last v ≤ 1 := by
  have hmid : last / 2 < l.length := by omega
  have hlast : last < l.length := by omega
  rw [cd_med3_last l _ last hmid hlast, cd_med2_mid _ _ last] at hv
  by_cases h0 : last / 2 = 0
  · rw [h0] at hv ⊢
    have e1 : med1 l 0 = l := by unfold med1; rw [bef_irrefl]; rfl
    have e2 : med1 (swp l last 0) 0 = swp l last 0 := by unfold med1; rw [bef_irrefl]; rfl
    rw [e1, e2] at hv
    rw [cd_swp l last 0 0 hlast (by omega), if_pos rfl] at hv
    unfold nBel nAbv
    rw [if_pos rfl, if_pos rfl]
    by_cases hz : last = 0
    · rw [if_pos hz, if_pos hz]
      have : v = cd l 0 := by rw [hv, hz]; split <;> rfl
      rw [this, bef_irrefl]
      exact ⟨.inl rfl, by simp [one], by simp [one]⟩
    · rw [if_neg hz, if_neg hz]
      cases hb : bef (cd l last) (cd l 0)
      · rw [hb] at hv
        simp only [Bool.false_eq_true, if_false] at hv
        rw [hv, bef_irrefl, hb]
        refine ⟨.inl rfl, by simp [one], ?_⟩
        cases bef (cd l 0) (cd l last) <;> simp [one]
      · rw [hb] at hv
        simp only [if_true] at hv
        rw [hv, bef_irrefl, hb]
        refine ⟨.inr (.inr ⟨hz, rfl⟩), ?_, by simp [one]⟩
        cases bef (cd l 0) (cd l last) <;> simp [one]
  · have hne : last ≠ 0 := by omega
    have hml : last / 2 < last := by omega
    generalize last / 2 = mid at *
    rw [cd_med1_other l mid last hmid (by omega) (by omega), cd_med1_mid l mid hmid, cd_med1_mid _ mid (by rw [swp_length, med1_length]; exact hmid),
      cd_swp _ last mid mid (by rw [med1_length]; exact hlast) (by rw [med1_length]; exact hmid), cd_swp _ last mid 0 (by rw [med1_length]; exact hlast) (by rw [med1_length]; exact hmid),
      if_pos rfl, if_neg h0, if_neg hne, cd_med1_0 l mid hmid, cd_med1_other l mid last hmid (by omega) (by omega)] at hv
    have := med_vals (cd l 0) (cd l mid) (cd l last) v hv
    unfold nBel nAbv
    rw [if_neg h0, if_neg hne, if_neg h0, if_neg hne]
    refine ⟨?_, this.2⟩
    rcases this.1 with h | h | h
    · exact .inl h
    · exact .inr (.inl ⟨h0, h⟩)
    · exact .inr (.inr ⟨hne, h⟩)
end Go.Proofs.Qxb6600132a
