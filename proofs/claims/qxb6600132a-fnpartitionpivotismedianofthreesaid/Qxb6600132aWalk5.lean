/-
  Seat b6600132a: FnPartitionPivotIsMedianOfThree, walked.
-/
import Derived.Test.Qxb6600132aSst
import Derived.Test.Qxb6600132aMedian
import Derived.BigQuiet
import Derived.Deep.Cut
import Derived.Deep.CutRange
namespace Go.Proofs.Qxb6600132a
open Go.RowKit

theorem SSt.drewN {w0 w : World} {O Z V : Nat} {l F : List Cd} {v : Cd} (h : SSt w0 O Z V l F v w) (n : Nat) : SSt w0 O Z V l F v (w.drewN n) :=
  ⟨h.rowO, h.rowZ, h.rowV, h.bel.trans ⟨rfl, rfl, rfl, Nat.le_refl _, fun _ _ => rfl⟩, h.ltO, h.ltZ, h.ltV⟩

/-- '==' on candidates. -/
def eqc (x y : Cd) : Bool := if x.c = y.c then (if x.p = y.p then decide (x.a = y.a) else false) else false
theorem eqc_self (x : Cd) : eqc x x = true := by simp [eqc]
theorem stood30 : Try.prog.stoodInHeld 30 = false := by kernel_rfl
set_option maxRecDepth 100000 in
theorem run_eqc (x y : Cd) (w : World) : (binOp .eql 30 (.agg #[.int .i64 x.c, .int .i64 x.p, .int .i64 x.a]) (.agg #[.int .i64 y.c, .int .i64 y.p, .int .i64 y.a])).run Try.prog w = .ok (.bool (eqc x y)) w := by
  have hf : Try.prog.underlying 30 = some (.struct (Try.prog.fieldsOf 30)) := by unfold Program.fieldsOf; rw [Try.underlying30]
  rw [run_eql_struct, run_equalIn_agg w 9999 30 _ _ hf stood30]
  unfold Program.fieldsOf
  rw [Try.underlying30]
  unfold eqc
  by_cases h1 : x.c = y.c
  · by_cases h2 : x.p = y.p
    · by_cases h3 : x.a = y.a
      · simp [go_sem, h1, h2, h3, Try.underlying2, Try.underlying3]
      · simp [go_sem, h1, h2, h3, Try.underlying2, Try.underlying3]
    · simp [go_sem, h1, h2, Try.underlying2, Try.underlying3]
  · simp [go_sem, h1, Try.underlying2, Try.underlying3]

set_option maxRecDepth 100000 in
set_option maxHeartbeats 4000000 in
theorem main5 (b off cap last : Nat) (l : List Cd) (w : World) (hl : l.length = last + 1) (hm : last < 16384) (hat : CandsAt w b off l) (hb : b < w.heap.size) :
    Calls Try.prog 5 #[.slice (some ⟨b, off, none⟩) (last + 1) cap] w (LawSays w) := by
  have HC := clone_any b off cap l w (by omega) hat hb
  rw [hl] at HC
  have HL : Hid (l.length = last + 1) := hl
  clear hat
  go_enter Try.func5, Try.ntmps5
  go_wp2_with fail
  refine (guard18 _ _ _ _).mono ?_
  rintro e w1 ⟨rfl, rfl⟩
  rw [decide_eq_true (by omega)]
  go_wp2_with fail
  refine HC.mono ?_
  clear HC
  rintro e w2 ⟨rfl, hb2, hr2, hs2'⟩
  have hs2 : w1.heap.size < w2.heap.size := by rw [hs2']; omega
  clear hs2'
  have HC := candsOf_any w1.heap.size l w2 (by omega) hr2 (by omega)
  rw [hl] at HC
  go_wp2_with fail
  refine HC.mono ?_
  clear HC
  rintro e w3 ⟨rfl, hb3, hr3, hs3⟩
  have hA : Row3 w3 w1.heap.size 32 l := RowIs.below hr2 hb3 (by omega)
  have HC := candsOf_any w1.heap.size l w3 (by omega) hA (by omega)
  rw [hl] at HC
  go_wp2_with fail
  refine HC.mono ?_
  clear HC
  rintro e w4 ⟨rfl, hb4, hr4, hs4⟩
  have HC := zzPartition_any w3.heap.size last l w4 hr4 hl hm hs4
  go_wp2_with fail
  refine HC.mono ?_
  clear HC
  rintro e w5 ⟨pv, L, hL, hpv, rfl, hb5, hr5, hs5⟩
  have HSP := split_law l last hl L pv hL hpv
  have HMD := median_law l last hl pv (by rw [hpv, hL])
  have hFl := HSP.len
  have hple := HSP.le
  have hhere := HSP.here
  clear HSP
  generalize swp (partTo L pv last).1 (partTo L pv last).2 last = F at *
  generalize (partTo L pv last).2 = p at *
  have hbA : Below w1.heap.size w1 w5 := ((hb2.trans (hb3.mono (by omega))).trans (hb4.mono (by omega))).trans (hb5.mono (by omega))
  have hO5 : Row3 w5 w2.heap.size 30 l := RowIs.below (RowIs.below hr3 hb4 (by omega)) hb5 (by omega)
  have HST : Hid (SSt w1 w2.heap.size w3.heap.size w5.heap.size l F pv (w5.alloc (.cells pv.cells.toArray 30))) := sst_new pv hO5 hr5 hbA (by have := hb5.size; omega) hs5
  obtain ⟨c0, c1, c2⟩ := hr5.at p (by omega)
  rw [hhere] at c0 c1 c2
  have i1 : (p : Int) < (last : Int) + 1 := by omega
  have i2 : (0 : Int) ≤ (p : Int) := by omega
  generalize hO : w2.heap.size = O at *
  generalize hZ : w3.heap.size = Z at *
  clear hb2 hr2 hs2 hb3 hr3 hs3 hA hb4 hr4 hs4 hb5 hr5 hs5 hL hpv hFl hhere hbA hO5 hO hZ hb hl
  have hml : last / 2 ≤ last := Nat.div_le_self _ _
  have HLZ : Hid (last = 0 → last / 2 = 0) := fun h => by rw [h]
  have HMD1 : Hid ((pv = cd l 0 ∨ (last / 2 ≠ 0 ∧ pv = cd l (last / 2)) ∨ (last ≠ 0 ∧ pv = cd l last)) ∧ nBel l (last / 2) last pv ≤ 1 ∧ nAbv l (last / 2) last pv ≤ 1) := HMD
  clear HMD
  go_wp2
  clear c0 c1 c2
  rw [show ((last : Int) / 2) = ((last / 2 : Nat) : Int) from by omega]
  generalize last / 2 = mid at *
  have HST1 : Hid (SSt w1 O Z w5.heap.size l F pv (w5.alloc (.cells #[.int .i64 pv.c, .int .i64 pv.p, .int .i64 pv.a] 30))) := HST.out
  clear HST
  generalize w5.alloc (.cells #[.int .i64 pv.c, .int .i64 pv.p, .int .i64 pv.a] 30) = w6 at *
  generalize w5.heap.size = V at *
  obtain ⟨v0, v1, v2⟩ := HST1.out.atV
  obtain ⟨a0, a1, a2⟩ := HST1.out.atO0 (by rw [HL.out]; omega)
  have hqA := run_eqc pv (cd l 0)
  have hqB := run_eqc pv (cd l mid)
  have hqC := run_eqc pv (cd l last)
  have HOR : Hid ((eqc pv (cd l 0) = true) ∨ (mid ≠ 0 ∧ eqc pv (cd l mid) = true) ∨ (last ≠ 0 ∧ eqc pv (cd l last) = true)) := by
    rcases HMD1.out.1 with h | ⟨h, h2⟩ | ⟨h, h2⟩
    · exact .inl (by rw [← h]; exact eqc_self _)
    · exact .inr (.inl ⟨h, by rw [← h2]; exact eqc_self _⟩)
    · exact .inr (.inr ⟨h, by rw [← h2]; exact eqc_self _⟩)
  generalize eqc pv (cd l 0) = eA at *
  generalize eqc pv (cd l mid) = eB at *
  generalize eqc pv (cd l last) = eC at *
  obtain ⟨bB, HbB⟩ : ∃ bB : Bool, Hid (bB = if mid = 0 then false else eB) := ⟨_, rfl⟩
  obtain ⟨bC, HbC⟩ : ∃ bC : Bool, Hid (bC = if last = 0 then false else eC) := ⟨_, rfl⟩
  have HBOR : Hid ((eA || bB || bC) = true) := by
    unfold Hid
    rw [HbB.out, HbC.out]
    rcases HOR.out with h | ⟨h, h2⟩ | ⟨h, h2⟩
    · rw [h]; simp
    · rw [if_neg h, h2]; simp
    · rw [if_neg h, h2]; simp
  have k1 : (mid : Int) < (last : Int) + 1 := by omega
  have k2 : (0 : Int) ≤ (mid : Int) := by omega
  have k3 : (last : Int) < (last : Int) + 1 := by omega
  have k4 : (0 : Int) ≤ (last : Int) := by omega
  have k5 : (0 : Int) < (last : Int) + 1 := by omega
  go_quiet (fail)
  go_upto_region 17 with fail
  have ST1 : Hid (SSt w1 O Z V l F pv w6) := HST1.out
  clear HST1 v0 v1 v2 a0 a1 a2 hqA
  go_cut [10] from 14 (fun x w' => x = .bool bB ∧ SSt w1 O Z V l F pv w')
  case first =>
    obtain ⟨v0, v1, v2⟩ := ST1.out.atV
    obtain ⟨m0, m1, m2⟩ := ST1.out.atO mid (by rw [HL.out]; omega)
    by_cases hm0 : mid = 0
    · have g1 : ((mid : Int) != 0) = false := by simp; omega
      have g3 : (mid : Int) = 0 := by omega
      have hbb : Hid (bB = false ) := by unfold Hid; rw [HbB.out, if_pos hm0]
      go_quiet (fail)
      go_wp2_with fail
      go_meet
      case rel => first | exact ⟨by rw [hbb.out], ST1.out.drewN _⟩ | exact ⟨by rw [hbb.out], (ST1.out.drewN _).drewN _⟩
    · have g1 : ((mid : Int) != 0) = true := by simp; omega
      have g3 : ¬ (mid : Int) = 0 := by omega
      have hbb : Hid (bB = eB ) := by unfold Hid; rw [HbB.out, if_neg hm0]
      go_quiet (fail)
      go_wp2_with fail
      go_meet
      case rel => first | exact ⟨by rw [hbb.out], ST1.out.drewN _⟩ | exact ⟨by rw [hbb.out], (ST1.out.drewN _).drewN _⟩
  case rest =>
    obtain ⟨rfl, hst⟩ := hcut
    have ST2 : Hid (SSt w1 O Z V l F pv wc) := hst
    clear hst ST1
    go_upto_region 18 with fail
    go_cut [11] from 63 to 72 (fun x w' => x = .bool bC ∧ SSt w1 O Z V l F pv w')
    case first =>
      obtain ⟨v0, v1, v2⟩ := ST2.out.atV
      obtain ⟨m0, m1, m2⟩ := ST2.out.atO last (by rw [HL.out]; omega)
      by_cases hm0 : last = 0
      · have g1 : ((last : Int) != 0) = false := by simp; omega
        have g3 : (last : Int) = 0 := by omega
        have hbb : Hid (bC = false ) := by unfold Hid; rw [HbC.out, if_pos hm0]
        go_quiet (fail)
        go_wp2_with fail
        go_meet
        case rel => first | exact ⟨by rw [hbb.out], ST2.out.drewN _⟩ | exact ⟨by rw [hbb.out], (ST2.out.drewN _).drewN _⟩
      · have g1 : ((last : Int) != 0) = true := by simp; omega
        have g3 : ¬ (last : Int) = 0 := by omega
        have hbb : Hid (bC = eC ) := by unfold Hid; rw [HbC.out, if_neg hm0]
        go_quiet (fail)
        go_wp2_with fail
        go_meet
        case rel => first | exact ⟨by rw [hbb.out], ST2.out.drewN _⟩ | exact ⟨by rw [hbb.out], (ST2.out.drewN _).drewN _⟩
    case rest =>
      obtain ⟨rfl, hst⟩ := hcut
      have ST3 : Hid (SSt w1 O Z V l F pv wc) := hst
      clear hst ST2
      go_upto_region 19 with fail
      go_cut [9, 10, 11, 82] from 73 to 82 (fun _ _ _ c w' => c = .bool false ∧ SSt w1 O Z V l F pv w')
      case first =>
        cases eA
        · cases bB
          · cases bC
            · exact absurd HBOR.out (by decide)
            · go_wp2_with fail
              go_meet
              case rel => exact ⟨by first | rfl | simp, ST3.out⟩
          · go_wp2_with fail
            go_meet
            case rel => exact ⟨by first | rfl | simp, ST3.out⟩
        · go_wp2_with fail
          go_meet
          case rel => exact ⟨by first | rfl | simp, ST3.out⟩
      case rest =>
        obtain ⟨rfl, hst⟩ := hcut
        have ST4 : Hid (SSt w1 O Z V l F pv wc) := hst
        clear hst ST3 hqB hqC HOR HBOR HbB HbC eA eB eC i1 i2 hple
        go_wp2
        have hltO := ST4.out.ltO
        have hltV := ST4.out.ltV
        obtain ⟨ca0, ca1, ca2⟩ := ST4.out.atO0 (by rw [HL.out]; omega)
        obtain ⟨cb0, cb1, cb2⟩ := ST4.out.atV
        go_region_held3 (fun w' => w'.cell? ⟨O, 0, none⟩ = some (.int .i64 (cd l 0).c) ∧ w'.cell? ⟨O, 1, none⟩ = some (.int .i64 (cd l 0).p) ∧ w'.cell? ⟨O, 2, none⟩ = some (.int .i64 (cd l 0).a) ∧ w'.cell? ⟨V, 0, none⟩ = some (.int .i64 pv.c) ∧ w'.cell? ⟨V, 1, none⟩ = some (.int .i64 pv.p) ∧ w'.cell? ⟨V, 2, none⟩ = some (.int .i64 pv.a)) ((first | (go_keep; done) | (refine ⟨?_, ?_, ?_, ?_, ?_, ?_⟩ <;> (refine (hc _ _ (by first | exact hltO | exact hltV)).trans ?_; simp only [World.cell?_drew]; assumption))))
          (first | (go_at_call 17; refine (zzBefore_any (cd l 0) pv _).mono ?_; rintro e w7 ⟨rfl, hb⟩; obtain ⟨hc, hf⟩ := bcell hb))
        have ST5 : Hid (SSt w1 O Z V l F pv w7) := ST4.out.called hb
        clear hb ca0 ca1 ca2 cb0 cb1 cb2 ST4 hltO hltV
        go_upto_if 87 with fail
        go_cut [12] from 83 to 89 (fun c w' => ∃ n : Nat, c = .int .i64 n ∧ n = one (bef (cd l 0) pv) ∧ n ≤ 1 ∧ SSt w1 O Z V l F pv w')
        case first =>
          cases hbf : bef (cd l 0) pv
          · go_wp2
            go_meet
            case rel => exact ⟨0, (by first | rfl | (simp [one]; done) | (simp [one]; go_num) | go_num), by simp [one, hbf], by omega, ST5.out⟩
          · go_wp2
            go_meet
            case rel => exact ⟨0 + 1, (by first | rfl | (simp [one]; done) | (simp [one]; go_num) | go_num), by simp [one, hbf], by omega, ST5.out⟩
        case rest =>
          obtain ⟨n1, rfl, hn9, hn1, hst⟩ := hcut
          have Hn1 : Hid (n1 = one (bef (cd l 0) pv)) := hn9
          have ST6 : Hid (SSt w1 O Z V l F pv wc) := hst
          clear hst hn9 ST5
          go_wp2
          have hltO := ST6.out.ltO
          have hltV := ST6.out.ltV
          obtain ⟨ca0, ca1, ca2⟩ := ST6.out.atO0 (by rw [HL.out]; omega)
          obtain ⟨cb0, cb1, cb2⟩ := ST6.out.atV
          go_region_held3 (fun w' => w'.cell? ⟨O, 0, none⟩ = some (.int .i64 (cd l 0).c) ∧ w'.cell? ⟨O, 1, none⟩ = some (.int .i64 (cd l 0).p) ∧ w'.cell? ⟨O, 2, none⟩ = some (.int .i64 (cd l 0).a) ∧ w'.cell? ⟨V, 0, none⟩ = some (.int .i64 pv.c) ∧ w'.cell? ⟨V, 1, none⟩ = some (.int .i64 pv.p) ∧ w'.cell? ⟨V, 2, none⟩ = some (.int .i64 pv.a)) ((first | (go_keep; done) | (refine ⟨?_, ?_, ?_, ?_, ?_, ?_⟩ <;> (refine (hc _ _ (by first | exact hltO | exact hltV)).trans ?_; simp only [World.cell?_drew]; assumption))))
            (first | (go_at_call 17; refine (zzBefore_any pv (cd l 0) _).mono ?_; rintro e w8 ⟨rfl, hb⟩; obtain ⟨hc, hf⟩ := bcell hb))
          have ST7 : Hid (SSt w1 O Z V l F pv w8) := ST6.out.called hb
          clear hb ca0 ca1 ca2 cb0 cb1 cb2 ST6 hltO hltV
          go_upto_if 94 with fail
          go_cut [13] from 90 to 96 (fun c w' => ∃ n : Nat, c = .int .i64 n ∧ n = one (bef pv (cd l 0)) ∧ n ≤ 1 ∧ SSt w1 O Z V l F pv w')
          case first =>
            cases hbf : bef pv (cd l 0)
            · go_wp2
              go_meet
              case rel => exact ⟨0, (by first | rfl | (simp [one]; done) | (simp [one]; go_num) | go_num), by simp [one, hbf], by omega, ST7.out⟩
            · go_wp2
              go_meet
              case rel => exact ⟨0 + 1, (by first | rfl | (simp [one]; done) | (simp [one]; go_num) | go_num), by simp [one, hbf], by omega, ST7.out⟩
          case rest =>
            obtain ⟨m1, rfl, hn9, hm1, hst⟩ := hcut
            have Hm1 : Hid (m1 = one (bef pv (cd l 0))) := hn9
            have ST8 : Hid (SSt w1 O Z V l F pv wc) := hst
            clear hst hn9 ST7
            go_upto_if 98 with fail
            go_cut [12, 13] from 97 to 98 (fun c d w' => ∃ (x y : Nat), c = .int .i64 x ∧ x = n1 + (if mid = 0 then 0 else one (bef (cd l mid) pv)) ∧ x ≤ 2 ∧ d = .int .i64 y ∧ y = m1 + (if mid = 0 then 0 else one (bef pv (cd l mid))) ∧ y ≤ 2 ∧ SSt w1 O Z V l F pv w')
            case first =>
              by_cases hm0 : mid = 0
              · have g1 : ((mid : Int) != 0) = false := by simp; omega
                have g3 : (mid : Int) = 0 := by omega
                have en : Hid ((if mid = 0 then 0 else one (bef (cd l mid) pv)) = 0) := if_pos hm0
                have em : Hid ((if mid = 0 then 0 else one (bef pv (cd l mid))) = 0) := if_pos hm0
                go_wp2
                go_meet
                case rel => exact ⟨n1, m1, rfl, by rw [en.out]; rfl, by omega, rfl, by rw [em.out]; rfl, by omega, ST8.out⟩
              · have g1 : ((mid : Int) != 0) = true := by simp; omega
                have g3 : ¬ (mid : Int) = 0 := by omega
                have en : Hid ((if mid = 0 then 0 else one (bef (cd l mid) pv)) = one (bef (cd l mid) pv)) := if_neg hm0
                have em : Hid ((if mid = 0 then 0 else one (bef pv (cd l mid))) = one (bef pv (cd l mid))) := if_neg hm0
                go_wp2
                have hltO := ST8.out.ltO
                have hltV := ST8.out.ltV
                obtain ⟨ca0, ca1, ca2⟩ := ST8.out.atO mid (by rw [HL.out]; omega)
                obtain ⟨cb0, cb1, cb2⟩ := ST8.out.atV
                go_region_held3 (fun w' => w'.cell? ⟨O, mid * 3, none⟩ = some (.int .i64 (cd l mid).c) ∧ w'.cell? ⟨O, mid * 3 + 1, none⟩ = some (.int .i64 (cd l mid).p) ∧ w'.cell? ⟨O, mid * 3 + 2, none⟩ = some (.int .i64 (cd l mid).a) ∧ w'.cell? ⟨V, 0, none⟩ = some (.int .i64 pv.c) ∧ w'.cell? ⟨V, 1, none⟩ = some (.int .i64 pv.p) ∧ w'.cell? ⟨V, 2, none⟩ = some (.int .i64 pv.a)) ((first | (go_keep; done) | (refine ⟨?_, ?_, ?_, ?_, ?_, ?_⟩ <;> (refine (hc _ _ (by first | exact hltO | exact hltV)).trans ?_; simp only [World.cell?_drew]; assumption))))
                  (first | (go_at_call 17; refine (zzBefore_any (cd l mid) pv _).mono ?_; rintro e w9 ⟨rfl, hb⟩; obtain ⟨hc, hf⟩ := bcell hb))
                have STa : Hid (SSt w1 O Z V l F pv w9) := ST8.out.called hb
                clear hb ca0 ca1 ca2 cb0 cb1 cb2 ST8 hltO hltV
                go_upto_if 104 with fail
                go_cut [12] from 99 to 106 (fun c w' => ∃ n : Nat, c = .int .i64 n ∧ n = n1 + one (bef (cd l mid) pv) ∧ n ≤ 2 ∧ SSt w1 O Z V l F pv w')
                case first =>
                  cases hbf : bef (cd l mid) pv
                  · go_wp2
                    go_meet
                    case rel => exact ⟨n1, (by first | rfl | (simp [one]; done) | (simp [one]; go_num) | go_num), by simp [one, hbf], by omega, STa.out⟩
                  · go_wp2
                    go_meet
                    case rel => exact ⟨n1 + 1, (by first | rfl | (simp [one]; done) | (simp [one]; go_num) | go_num), by simp [one, hbf], by omega, STa.out⟩
                case rest =>
                  obtain ⟨x1, rfl, hn9, hx1, hst⟩ := hcut
                  have Hx1 : Hid (x1 = n1 + one (bef (cd l mid) pv)) := hn9
                  have STb : Hid (SSt w1 O Z V l F pv wc) := hst
                  clear hst hn9 STa
                  go_wp2
                  have hltO := STb.out.ltO
                  have hltV := STb.out.ltV
                  obtain ⟨ca0, ca1, ca2⟩ := STb.out.atO mid (by rw [HL.out]; omega)
                  obtain ⟨cb0, cb1, cb2⟩ := STb.out.atV
                  go_region_held3 (fun w' => w'.cell? ⟨O, mid * 3, none⟩ = some (.int .i64 (cd l mid).c) ∧ w'.cell? ⟨O, mid * 3 + 1, none⟩ = some (.int .i64 (cd l mid).p) ∧ w'.cell? ⟨O, mid * 3 + 2, none⟩ = some (.int .i64 (cd l mid).a) ∧ w'.cell? ⟨V, 0, none⟩ = some (.int .i64 pv.c) ∧ w'.cell? ⟨V, 1, none⟩ = some (.int .i64 pv.p) ∧ w'.cell? ⟨V, 2, none⟩ = some (.int .i64 pv.a)) ((first | (go_keep; done) | (refine ⟨?_, ?_, ?_, ?_, ?_, ?_⟩ <;> (refine (hc _ _ (by first | exact hltO | exact hltV)).trans ?_; simp only [World.cell?_drew]; assumption))))
                    (first | (go_at_call 17; refine (zzBefore_any pv (cd l mid) _).mono ?_; rintro e w10 ⟨rfl, hb⟩; obtain ⟨hc, hf⟩ := bcell hb))
                  have STc : Hid (SSt w1 O Z V l F pv w10) := STb.out.called hb
                  clear hb ca0 ca1 ca2 cb0 cb1 cb2 STb hltO hltV
                  cases hbf : bef pv (cd l mid)
                  · go_wp2
                    go_meet
                    case rel => exact ⟨x1, m1, rfl, by rw [en.out]; exact Hx1.out, hx1, (by first | rfl | (simp [one]; done) | (simp [one]; go_num) | go_num), by rw [em.out, hbf]; rfl, by omega, STc.out⟩
                  · go_wp2
                    go_meet
                    case rel => exact ⟨x1, m1 + 1, rfl, by rw [en.out]; exact Hx1.out, hx1, (by first | rfl | (simp [one]; done) | (simp [one]; go_num) | go_num), by rw [em.out, hbf]; rfl, by omega, STc.out⟩
            case rest =>
              obtain ⟨n2, m2, rfl, hn9, hn2, rfl, hm9, hm2, hst⟩ := hcut
              have Hn2 : Hid (n2 = n1 + (if mid = 0 then 0 else one (bef (cd l mid) pv))) := hn9
              have Hm2 : Hid (m2 = m1 + (if mid = 0 then 0 else one (bef pv (cd l mid)))) := hm9
              have ST9 : Hid (SSt w1 O Z V l F pv wc) := hst
              clear hst hn9 hm9 ST8
              go_upto_if 116 with fail
              go_cut [12, 13] from 115 to 116 (fun c d w' => ∃ (x y : Nat), c = .int .i64 x ∧ x = n2 + (if last = 0 then 0 else one (bef (cd l last) pv)) ∧ x ≤ 3 ∧ d = .int .i64 y ∧ y = m2 + (if last = 0 then 0 else one (bef pv (cd l last))) ∧ y ≤ 3 ∧ SSt w1 O Z V l F pv w')
              case first =>
                by_cases hm0 : last = 0
                · have g1 : ((last : Int) != 0) = false := by simp; omega
                  have g3 : (last : Int) = 0 := by omega
                  have en : Hid ((if last = 0 then 0 else one (bef (cd l last) pv)) = 0) := if_pos hm0
                  have em : Hid ((if last = 0 then 0 else one (bef pv (cd l last))) = 0) := if_pos hm0
                  go_wp2
                  go_meet
                  case rel => exact ⟨n2, m2, rfl, by rw [en.out]; rfl, by omega, rfl, by rw [em.out]; rfl, by omega, ST9.out⟩
                · have g1 : ((last : Int) != 0) = true := by simp; omega
                  have g3 : ¬ (last : Int) = 0 := by omega
                  have en : Hid ((if last = 0 then 0 else one (bef (cd l last) pv)) = one (bef (cd l last) pv)) := if_neg hm0
                  have em : Hid ((if last = 0 then 0 else one (bef pv (cd l last))) = one (bef pv (cd l last))) := if_neg hm0
                  go_wp2
                  have hltO := ST9.out.ltO
                  have hltV := ST9.out.ltV
                  obtain ⟨ca0, ca1, ca2⟩ := ST9.out.atO last (by rw [HL.out]; omega)
                  obtain ⟨cb0, cb1, cb2⟩ := ST9.out.atV
                  go_region_held3 (fun w' => w'.cell? ⟨O, last * 3, none⟩ = some (.int .i64 (cd l last).c) ∧ w'.cell? ⟨O, last * 3 + 1, none⟩ = some (.int .i64 (cd l last).p) ∧ w'.cell? ⟨O, last * 3 + 2, none⟩ = some (.int .i64 (cd l last).a) ∧ w'.cell? ⟨V, 0, none⟩ = some (.int .i64 pv.c) ∧ w'.cell? ⟨V, 1, none⟩ = some (.int .i64 pv.p) ∧ w'.cell? ⟨V, 2, none⟩ = some (.int .i64 pv.a)) ((first | (go_keep; done) | (refine ⟨?_, ?_, ?_, ?_, ?_, ?_⟩ <;> (refine (hc _ _ (by first | exact hltO | exact hltV)).trans ?_; simp only [World.cell?_drew]; assumption))))
                    (first | (go_at_call 17; refine (zzBefore_any (cd l last) pv _).mono ?_; rintro e w11 ⟨rfl, hb⟩; obtain ⟨hc, hf⟩ := bcell hb))
                  have STa : Hid (SSt w1 O Z V l F pv w11) := ST9.out.called hb
                  clear hb ca0 ca1 ca2 cb0 cb1 cb2 ST9 hltO hltV
                  go_upto_if 122 with fail
                  go_cut [12] from 117 to 124 (fun c w' => ∃ n : Nat, c = .int .i64 n ∧ n = n2 + one (bef (cd l last) pv) ∧ n ≤ 3 ∧ SSt w1 O Z V l F pv w')
                  case first =>
                    cases hbf : bef (cd l last) pv
                    · go_wp2
                      go_meet
                      case rel => exact ⟨n2, (by first | rfl | (simp [one]; done) | (simp [one]; go_num) | go_num), by simp [one, hbf], by omega, STa.out⟩
                    · go_wp2
                      go_meet
                      case rel => exact ⟨n2 + 1, (by first | rfl | (simp [one]; done) | (simp [one]; go_num) | go_num), by simp [one, hbf], by omega, STa.out⟩
                  case rest =>
                    obtain ⟨x1, rfl, hn9, hx1, hst⟩ := hcut
                    have Hx1 : Hid (x1 = n2 + one (bef (cd l last) pv)) := hn9
                    have STb : Hid (SSt w1 O Z V l F pv wc) := hst
                    clear hst hn9 STa
                    go_wp2
                    have hltO := STb.out.ltO
                    have hltV := STb.out.ltV
                    obtain ⟨ca0, ca1, ca2⟩ := STb.out.atO last (by rw [HL.out]; omega)
                    obtain ⟨cb0, cb1, cb2⟩ := STb.out.atV
                    go_region_held3 (fun w' => w'.cell? ⟨O, last * 3, none⟩ = some (.int .i64 (cd l last).c) ∧ w'.cell? ⟨O, last * 3 + 1, none⟩ = some (.int .i64 (cd l last).p) ∧ w'.cell? ⟨O, last * 3 + 2, none⟩ = some (.int .i64 (cd l last).a) ∧ w'.cell? ⟨V, 0, none⟩ = some (.int .i64 pv.c) ∧ w'.cell? ⟨V, 1, none⟩ = some (.int .i64 pv.p) ∧ w'.cell? ⟨V, 2, none⟩ = some (.int .i64 pv.a)) ((first | (go_keep; done) | (refine ⟨?_, ?_, ?_, ?_, ?_, ?_⟩ <;> (refine (hc _ _ (by first | exact hltO | exact hltV)).trans ?_; simp only [World.cell?_drew]; assumption))))
                      (first | (go_at_call 17; refine (zzBefore_any pv (cd l last) _).mono ?_; rintro e w12 ⟨rfl, hb⟩; obtain ⟨hc, hf⟩ := bcell hb))
                    have STc : Hid (SSt w1 O Z V l F pv w12) := STb.out.called hb
                    clear hb ca0 ca1 ca2 cb0 cb1 cb2 STb hltO hltV
                    cases hbf : bef pv (cd l last)
                    · go_wp2
                      go_meet
                      case rel => exact ⟨x1, m2, rfl, by rw [en.out]; exact Hx1.out, hx1, (by first | rfl | (simp [one]; done) | (simp [one]; go_num) | go_num), by rw [em.out, hbf]; rfl, by omega, STc.out⟩
                    · go_wp2
                      go_meet
                      case rel => exact ⟨x1, m2 + 1, rfl, by rw [en.out]; exact Hx1.out, hx1, (by first | rfl | (simp [one]; done) | (simp [one]; go_num) | go_num), by rw [em.out, hbf]; rfl, by omega, STc.out⟩
              case rest =>
                obtain ⟨n3, m3, rfl, hn9, hn3, rfl, hm9, hm3, hst⟩ := hcut
                have Hn3 : Hid (n3 = n2 + (if last = 0 then 0 else one (bef (cd l last) pv))) := hn9
                have Hm3 : Hid (m3 = m2 + (if last = 0 then 0 else one (bef pv (cd l last)))) := hm9
                have ST10 : Hid (SSt w1 O Z V l F pv wc) := hst
                clear hst hn9 hm9 ST9
                have f1 : n3 ≤ 1 := by rw [Hn3.out, Hn2.out, Hn1.out]; exact HMD1.out.2.1
                have f2 : m3 ≤ 1 := by rw [Hm3.out, Hm2.out, Hm1.out]; exact HMD1.out.2.2
                have f3 : (n3 : Int) ≤ 1 := by omega
                have f4 : (m3 : Int) ≤ 1 := by omega
                go_wp2
                go_ret
                exact ⟨by first | rfl | simp, ST10.out.bel⟩
theorem walk5 (b off cap len : Nat) (l : List Cd) (w : World) (hl : l.length = len) (hat : CandsAt w b off l) (hb : b < w.heap.size) :
    Calls Try.prog 5 #[.slice (some ⟨b, off, none⟩) len cap] w (LawSays w) := by
  by_cases h : 16384 < len ∨ len = 0
  · exact early5 _ len cap w h
  · obtain ⟨last, rfl⟩ : ∃ last, len = last + 1 := ⟨len - 1, by omega⟩
    exact main5 b off cap last l w hl (by omega) hat hb
end Go.Proofs.Qxb6600132a
