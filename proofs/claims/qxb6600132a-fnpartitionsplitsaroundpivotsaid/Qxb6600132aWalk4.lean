/-
  Seat b6600132a: FnPartitionSplitsAroundPivot, walked.
-/
import Derived.Test.Qxb6600132aSst
namespace Go.Proofs.Qxb6600132a
open Go.RowKit

/-- How many of the first k come before v. -/
def cnt (l : List Cd) (v : Cd) (k : Nat) : Nat := ((l.take k).filter fun x => bef x v).length
theorem cnt_zero (l : List Cd) (v : Cd) : cnt l v 0 = 0 := by simp [cnt]
theorem cnt_le (l : List Cd) (v : Cd) (k : Nat) : cnt l v k ≤ k := by
  unfold cnt
  refine Nat.le_trans (List.length_filter_le _ _) ?_
  simp
  omega
theorem cnt_succ (l : List Cd) (v : Cd) (k : Nat) (h : k < l.length) : cnt l v (k + 1) = cnt l v k + if bef (cd l k) v then 1 else 0 := by
  unfold cnt
  rw [List.take_succ_eq_append_getElem h, List.filter_append, List.length_append, ← cd_get l k h]
  cases hb : bef (cd l k) v <;> simp [hb]
theorem cnt_all (l : List Cd) (v : Cd) : cnt l v l.length = (l.filter fun x => bef x v).length := by simp [cnt]

set_option maxRecDepth 100000 in
set_option maxHeartbeats 4000000 in
theorem main4 (b off cap last : Nat) (l : List Cd) (w : World) (hl : l.length = last + 1) (hm : last < 16384) (hat : CandsAt w b off l) (hb : b < w.heap.size) :
    Calls Try.prog 4 #[.slice (some ⟨b, off, none⟩) (last + 1) cap] w (LawSays w) := by
  have HC := clone_any b off cap l w (by omega) hat hb
  rw [hl] at HC
  have HL : Hid (l.length = last + 1) := hl
  clear hat
  go_enter Try.func4, Try.ntmps4
  go_wp2_with fail
  refine (guard16 _ _ _ _).mono ?_
  rintro e w1 ⟨rfl, rfl⟩
  rw [decide_eq_true (by omega)]
  go_wp2_with fail
  refine HC.mono ?_
  clear HC
  rintro e w2 ⟨rfl, hb2, hr2, hs2'⟩
  have hs2 : w1.heap.size < w2.heap.size := by rw [hs2']; omega
  clear hs2'
  have HC := candsOf_any w1.heap.size l w2 (by omega) hr2 (by omega)
  rw [hl] at HC
  go_wp2_with fail
  refine HC.mono ?_
  clear HC
  rintro e w3 ⟨rfl, hb3, hr3, hs3⟩
  have hA : Row3 w3 w1.heap.size 32 l := RowIs.below hr2 hb3 (by omega)
  have HC := candsOf_any w1.heap.size l w3 (by omega) hA (by omega)
  rw [hl] at HC
  go_wp2_with fail
  refine HC.mono ?_
  clear HC
  rintro e w4 ⟨rfl, hb4, hr4, hs4⟩
  have HC := zzPartition_any w3.heap.size last l w4 hr4 hl hm hs4
  go_wp2_with fail
  refine HC.mono ?_
  clear HC
  rintro e w5 ⟨pv, L, hL, hpv, rfl, hb5, hr5, hs5⟩
  have HSP := split_law l last hl L pv hL hpv
  obtain ⟨hFl, hple, hhere, hfront, hback, hcount⟩ := HSP
  generalize swp (partTo L pv last).1 (partTo L pv last).2 last = F at *
  generalize (partTo L pv last).2 = p at *
  have HS : Hid (F.length = last + 1 ∧ cd F p = pv ∧ (∀ j, j < p → bef (cd F j) pv = true) ∧ (∀ j, p < j → j ≤ last → bef (cd F j) pv = false) ∧ cnt l pv (last + 1) = p) :=
    ⟨hFl, hhere, hfront, hback, by rw [← hl, cnt_all]; exact hcount⟩
  have hbA : Below w1.heap.size w1 w5 := ((hb2.trans (hb3.mono (by omega))).trans (hb4.mono (by omega))).trans (hb5.mono (by omega))
  have hO5 : Row3 w5 w2.heap.size 30 l := RowIs.below (RowIs.below hr3 hb4 (by omega)) hb5 (by omega)
  have HST : Hid (SSt w1 w2.heap.size w3.heap.size w5.heap.size l F pv (w5.alloc (.cells pv.cells.toArray 30))) := sst_new pv hO5 hr5 hbA (by have := hb5.size; omega) hs5
  obtain ⟨c0, c1, c2⟩ := hr5.at p (by omega)
  rw [hhere] at c0 c1 c2
  have i1 : (p : Int) < (last : Int) + 1 := by omega
  have i2 : (0 : Int) ≤ (p : Int) := by omega
  generalize hO : w2.heap.size = O at *
  generalize hZ : w3.heap.size = Z at *
  clear hb2 hr2 hs2 hb3 hr3 hs3 hA hb4 hr4 hs4 hb5 hr5 hs5 hL hpv hFl hhere hfront hback hcount hbA hO5 hO hZ hb hl
  go_wp2
  clear c0 c1 c2
  go_loopw [7] (fun x w' => ∃ k : Nat, k ≤ p ∧ x = .int .i64 k ∧ SSt w1 O Z w5.heap.size l F pv w') (fun x _ => p - (intOf x).toNat)
  case atStart => exact ⟨0, Nat.zero_le _, rfl, HST.out⟩
  case round =>
    obtain ⟨k, hk, rfl, hst⟩ := hrel
    have ST : Hid (SSt w1 O Z w5.heap.size l F pv wr) := hst
    clear hst HST
    by_cases hlt : k < p
    · have hbf := HS.out.2.2.1 k hlt
      have hltZ := ST.out.ltZ
      have hltV := ST.out.ltV
      obtain ⟨ca0, ca1, ca2⟩ := ST.out.atZ k (by have := HS.out.1; omega)
      obtain ⟨cb0, cb1, cb2⟩ := ST.out.atV
      have j1 : (k : Int) < (last : Int) + 1 := by omega
      have j2 : (0 : Int) ≤ (k : Int) := by omega
      go_wp2
      go_region_held3 (fun w' => w'.cell? ⟨Z, k * 3, none⟩ = some (.int .i64 (cd F k).c) ∧ w'.cell? ⟨Z, k * 3 + 1, none⟩ = some (.int .i64 (cd F k).p) ∧ w'.cell? ⟨Z, k * 3 + 2, none⟩ = some (.int .i64 (cd F k).a) ∧ w'.cell? ⟨w5.heap.size, 0, none⟩ = some (.int .i64 pv.c) ∧ w'.cell? ⟨w5.heap.size, 1, none⟩ = some (.int .i64 pv.p) ∧ w'.cell? ⟨w5.heap.size, 2, none⟩ = some (.int .i64 pv.a)) ((first | (go_keep; done) | (refine ⟨?_, ?_, ?_, ?_, ?_, ?_⟩ <;> (refine (hc _ _ (by first | exact hltZ | exact hltV)).trans ?_; simp only [World.cell?_drew]; assumption))))
        (first | (go_at_call 17; refine (zzBefore_any (cd F k) pv _).mono ?_; rintro e w7 ⟨rfl, hb⟩; obtain ⟨hc, hf⟩ := bcell hb))
      have ST1 : Hid (SSt w1 O Z w5.heap.size l F pv w7) := ST.out.called hb
      clear hb ca0 ca1 ca2 cb0 cb1 cb2 ST
      go_wp2
      go_roundw
      case rel => exact ⟨k + 1, by omega, by go_num, ST1.out⟩
      case measure => simp [intOf]; omega
    · obtain rfl : k = p := by omega
      go_wp2
      go_loopw [8] (fun x w' => ∃ j : Nat, k < j ∧ j ≤ last + 1 ∧ x = .int .i64 j ∧ SSt w1 O Z w5.heap.size l F pv w') (fun x _ => last + 1 - (intOf x).toNat)
      case atStart => exact ⟨k + 1, by omega, by omega, by go_num, ST.out⟩
      case round =>
        obtain ⟨j, hj0, hj, rfl, hst⟩ := hrel
        have ST1 : Hid (SSt w1 O Z w5.heap.size l F pv wr) := hst
        clear hst ST
        by_cases hlt2 : j < last + 1
        · have hbf := HS.out.2.2.2.1 j hj0 (by omega)
          have hltZ := ST1.out.ltZ
          have hltV := ST1.out.ltV
          obtain ⟨ca0, ca1, ca2⟩ := ST1.out.atZ j (by have := HS.out.1; omega)
          obtain ⟨cb0, cb1, cb2⟩ := ST1.out.atV
          have j1 : (j : Int) < (last : Int) + 1 := by omega
          have j2 : (0 : Int) ≤ (j : Int) := by omega
          go_wp2
          go_region_held3 (fun w' => w'.cell? ⟨Z, j * 3, none⟩ = some (.int .i64 (cd F j).c) ∧ w'.cell? ⟨Z, j * 3 + 1, none⟩ = some (.int .i64 (cd F j).p) ∧ w'.cell? ⟨Z, j * 3 + 2, none⟩ = some (.int .i64 (cd F j).a) ∧ w'.cell? ⟨w5.heap.size, 0, none⟩ = some (.int .i64 pv.c) ∧ w'.cell? ⟨w5.heap.size, 1, none⟩ = some (.int .i64 pv.p) ∧ w'.cell? ⟨w5.heap.size, 2, none⟩ = some (.int .i64 pv.a)) ((first | (go_keep; done) | (refine ⟨?_, ?_, ?_, ?_, ?_, ?_⟩ <;> (refine (hc _ _ (by first | exact hltZ | exact hltV)).trans ?_; simp only [World.cell?_drew]; assumption))))
            (first | (go_at_call 17; refine (zzBefore_any (cd F j) pv _).mono ?_; rintro e w7 ⟨rfl, hb⟩; obtain ⟨hc, hf⟩ := bcell hb))
          have ST2 : Hid (SSt w1 O Z w5.heap.size l F pv w7) := ST1.out.called hb
          clear hb ca0 ca1 ca2 cb0 cb1 cb2 ST1
          go_wp2
          go_roundw
          case rel => exact ⟨j + 1, by omega, by omega, by go_num, ST2.out⟩
          case measure => simp [intOf]; omega
        · go_wp2
          go_loopw [9, 10] (fun c x w' => ∃ m : Nat, m ≤ last + 1 ∧ x = .int .i64 m ∧ c = .int .i64 (cnt l pv m) ∧ SSt w1 O Z w5.heap.size l F pv w') (fun _ x _ => last + 1 - (intOf x).toNat)
          case atStart => exact ⟨0, by omega, rfl, by rw [cnt_zero]; rfl, ST1.out⟩
          case round =>
            obtain ⟨m, hm0, rfl, rfl, hst⟩ := hrel
            have ST2 : Hid (SSt w1 O Z w5.heap.size l F pv wr) := hst
            clear hst ST1
            by_cases hlt3 : m < last + 1
            · have hltO := ST2.out.ltO
              have hltV := ST2.out.ltV
              have HCS : Hid (cnt l pv (m + 1) = cnt l pv m + if bef (cd l m) pv then 1 else 0) := cnt_succ l pv m (by rw [HL.out]; exact hlt3)
              have hcle := cnt_le l pv m
              generalize cnt l pv m = cc at *
              obtain ⟨ca0, ca1, ca2⟩ := ST2.out.atO m (by rw [HL.out]; exact hlt3)
              obtain ⟨cb0, cb1, cb2⟩ := ST2.out.atV
              have j1 : (m : Int) < (last : Int) + 1 := by omega
              have j2 : (0 : Int) ≤ (m : Int) := by omega
              go_wp2
              go_region_held3 (fun w' => w'.cell? ⟨O, m * 3, none⟩ = some (.int .i64 (cd l m).c) ∧ w'.cell? ⟨O, m * 3 + 1, none⟩ = some (.int .i64 (cd l m).p) ∧ w'.cell? ⟨O, m * 3 + 2, none⟩ = some (.int .i64 (cd l m).a) ∧ w'.cell? ⟨w5.heap.size, 0, none⟩ = some (.int .i64 pv.c) ∧ w'.cell? ⟨w5.heap.size, 1, none⟩ = some (.int .i64 pv.p) ∧ w'.cell? ⟨w5.heap.size, 2, none⟩ = some (.int .i64 pv.a)) ((first | (go_keep; done) | (refine ⟨?_, ?_, ?_, ?_, ?_, ?_⟩ <;> (refine (hc _ _ (by first | exact hltO | exact hltV)).trans ?_; simp only [World.cell?_drew]; assumption))))
                (first | (go_at_call 17; refine (zzBefore_any (cd l m) pv _).mono ?_; rintro e w7 ⟨rfl, hb⟩; obtain ⟨hc, hf⟩ := bcell hb))
              have ST3 : Hid (SSt w1 O Z w5.heap.size l F pv w7) := ST2.out.called hb
              clear hb ca0 ca1 ca2 cb0 cb1 cb2 ST2
              cases hbf : bef (cd l m) pv
              · have HN : Hid (cnt l pv (m + 1) = cc) := by unfold Hid; rw [HCS.out, hbf]; rfl
                go_wp2
                go_roundw
                case rel => exact ⟨m + 1, by omega, by go_num, by rw [HN.out], ST3.out⟩
                case measure => simp [intOf]; omega
              · have HN : Hid (cnt l pv (m + 1) = cc + 1) := by unfold Hid; rw [HCS.out, hbf]; rfl
                go_wp2
                go_roundw
                case rel => exact ⟨m + 1, by omega, by go_num, by rw [HN.out]; go_num, ST3.out⟩
                case measure => simp [intOf]; omega
            · obtain rfl : m = last + 1 := by omega
              rw [HS.out.2.2.2.2]
              go_wp2
              go_ret
              exact ⟨by simp, ST2.out.bel⟩
theorem walk4 (b off cap len : Nat) (l : List Cd) (w : World) (hl : l.length = len) (hat : CandsAt w b off l) (hb : b < w.heap.size) :
    Calls Try.prog 4 #[.slice (some ⟨b, off, none⟩) len cap] w (LawSays w) := by
  by_cases h : 16384 < len ∨ len = 0
  · exact early4 _ len cap w h
  · obtain ⟨last, rfl⟩ : ∃ last, len = last + 1 := ⟨len - 1, by omega⟩
    exact main4 b off cap last l w hl (by omega) hat hb
end Go.Proofs.Qxb6600132a
