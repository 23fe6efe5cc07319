/-
  The contracts of the calendar's functions: leapYearsThrough, daysBeforeYear, date, weekday, addDays.
-/
import Derived.Test.YbulkbsqcDoorRows
import Derived.Test.YbulkbsqcDoorCal
import Derived.WalkKit
import Derived.WalkSpells
import Derived.Below
import Derived.WalkSmall
import Derived.Deep.CutRange
namespace Go.Proofs.YbulkbsqcDoor
open Go.RowKit

theorem ret_int {k : IntKind} {a b : Int} (h : a = b) : Ending.returned (.int k a) = .returned (.int k b) := by rw [h]

theorem tmod_of_neg {x n : Int} (h : x ≤ 0) : x.tmod n = -((-x) % n) := by
  have : x.tmod n = -((-x).tmod n) := by rw [Int.neg_tmod]; omega
  rw [this, Int.tmod_eq_emod_of_nonneg (by omega)]
theorem tdiv_of_neg {x n : Int} (h : x ≤ 0) : x.tdiv n = -((-x) / n) := by
  have : x.tdiv n = -((-x).tdiv n) := by rw [Int.neg_tdiv]; omega
  rw [this, Int.tdiv_eq_ediv_of_nonneg (by omega)]

theorem leap_any (y : Int) (h0 : 0 ≤ y) (h1 : y ≤ 100000000) (w : World) :
    Calls Ybad.prog 14 #[.int .i64 y] w fun e w' => e = .returned (.int .i64 (Cal.leap y)) ∧ w' = w := by
  go_enter Ybad.func14, Ybad.ntmps14
  go_wp2
  go_ret
  exact ⟨ret_int (by unfold Cal.leap; omega), rfl⟩

theorem dby_any (y : Int) (h0 : 0 ≤ y) (h1 : y ≤ 100000) (w : World) :
    Calls Ybad.prog 9 #[.int .i64 y] w fun e w' => e = .returned (.int .i64 (Cal.dby y)) ∧ w' = w := by
  have hl : 0 ≤ Cal.leap y ∧ Cal.leap y ≤ 100000 := by unfold Cal.leap; omega
  obtain ⟨l0, l1⟩ := hl
  go_enter Ybad.func9, Ybad.ntmps9
  go_wp2_with (go_at_call 14; refine (leap_any y h0 (by omega) _).mono ?_; rintro e w' ⟨rfl, rfl⟩)
  go_ret
  exact ⟨ret_int (by unfold Cal.dby; omega), rfl⟩

theorem addDays_any (d n : Int) (hd : -3000000000 ≤ d) (hd' : d ≤ 3000000000) (hn : -1000 ≤ n) (hn' : n ≤ 1000) (w : World) :
    Calls Ybad.prog 10 #[.agg #[.int .i64 d], .int .i64 n] w fun e w' => e = .returned (.agg #[.int .i64 (d + n)]) ∧ w' = (w.alloc (.cells #[.int .i64 d] 24)).alloc (.cells #[.int .i64 (d + n)] 24) := by
  go_enter Ybad.func10, Ybad.ntmps10
  go_wp2
  exact bodyPost_ret (v := .agg #[.int .i64 (d + n)]) (by simp [results, Ybad.results10, go_sem]) rfl ⟨rfl, rfl⟩

theorem weekday_any (d : Int) (hd : -3000000000 ≤ d) (hd' : d ≤ 3000000000) (w : World) :
    Calls Ybad.prog 12 #[.agg #[.int .i64 d]] w fun e w' => e = .returned (.int .i64 (Cal.wday d)) ∧ w' = w.alloc (.cells #[.int .i64 d] 24) := by
  by_cases h : 0 ≤ d + 4
  · go_enter Ybad.func12, Ybad.ntmps12
    go_wp2
    all_goals (go_ret; exact ⟨ret_int (by unfold Cal.wday; omega), rfl⟩)
  · have H : Hid ((d + 4).tmod 7 = -((-(d + 4)) % 7)) := tmod_of_neg (by omega)
    go_enter Ybad.func12, Ybad.ntmps12
    go_wp2
    all_goals (go_ret; exact ⟨ret_int (by have e := H.out; unfold Cal.wday; (try unfold wrap64); omega), rfl⟩)

/-- 'date': the year, the month and the day. -/
theorem date_any (d : Int) (hd : -3000000000 ≤ d) (hd' : d ≤ 3000000000) (w : World) :
    Calls Ybad.prog 11 #[.agg #[.int .i64 d]] w fun e w' => e = .returned (.tuple #[.int .i64 (Cal.year d), .int .i64 (Cal.month d), .int .i64 (Cal.day d)]) ∧ w' = w.alloc (.cells #[.int .i64 d] 24) := by
  obtain ⟨b0, b1⟩ := Cal.doe_in d
  have be : Hid (d + 719468 = Cal.era d * 146097 + Cal.doe d) := Cal.era_eq d
  obtain ⟨e0, e1⟩ : -30000 ≤ Cal.era d ∧ Cal.era d ≤ 30000 := by unfold Cal.era; omega
  obtain ⟨y0, y1⟩ := Cal.yoe0_in d
  obtain ⟨o0, o1⟩ := Cal.yoe_in d
  have p0 := Cal.doy_nonneg d
  obtain ⟨_, p1⟩ := Cal.doy_in d
  have m0 : 0 ≤ Cal.mp d ∧ Cal.mp d ≤ 5000 := by unfold Cal.mp; omega
  obtain ⟨m0, m1⟩ := m0
  go_enter Ybad.func11, Ybad.ntmps11
  go_upto_region 3 with fail
  go_cut [25] from 14 to 71 (fun t wc => ∃ T : Bool, t = .bool T ∧ T = (decide (d + 719468 < 0) && (d + 719468).tmod 146097 != 0) ∧ wc = w.alloc (.cells #[.int .i64 d] 24))
  case first =>
    by_cases hz : d + 719468 < 0
    · have hz' : decide (d + 719468 < 0) = true := by simpa using hz
      go_wp2
      go_meet
      case rel => exact ⟨_, rfl, by simp [hz'], rfl⟩
    · have hz' : decide (d + 719468 < 0) = false := by simpa using hz
      go_wp2
      go_meet
      case rel => exact ⟨_, rfl, by simp [hz'], rfl⟩
  case rest =>
    obtain ⟨T, rfl, hT, rfl⟩ := hcut
    have HT : Hid (T = (decide (d + 719468 < 0) && (d + 719468).tmod 146097 != 0)) := hT
    clear hT
    go_upto_if 25 with fail
    go_cut [6] from 14 to 71 (fun t wc => t = .int .i64 (Cal.era d) ∧ wc = w.alloc (.cells #[.int .i64 d] 24))
    case first =>
      cases T
      · go_wp2
        go_meet
        case rel =>
          refine ⟨?_, rfl⟩
          have hT := HT.out
          congr 1
          unfold Cal.era
          by_cases hz : d + 719468 < 0
          · have h1 : (d + 719468).tmod 146097 = -((-(d + 719468)) % 146097) := tmod_of_neg (by omega)
            have h2 : (d + 719468).tdiv 146097 = -((-(d + 719468)) / 146097) := tdiv_of_neg (by omega)
            simp [hz] at hT
            omega
          · rw [Int.tdiv_eq_ediv_of_nonneg (by omega)]
      · go_wp2
        go_meet
        case rel =>
          refine ⟨?_, rfl⟩
          have hT := HT.out
          congr 1
          unfold Cal.era
          simp at hT
          have h1 : (d + 719468).tmod 146097 = -((-(d + 719468)) % 146097) := tmod_of_neg (by omega)
          have h2 : (d + 719468).tdiv 146097 = -((-(d + 719468)) / 146097) := tdiv_of_neg (by omega)
          unfold wrap64
          omega
    case rest =>
      obtain ⟨rfl, rfl⟩ := hcut
      have hdoe : d + 719468 - Cal.era d * 146097 = Cal.doe d := by have := be.out; omega
      obtain ⟨Y, hY⟩ : ∃ Y, Cal.doe d * 400 / 146097 = Y := ⟨_, rfl⟩
      have HY : Hid (Cal.doe d * 400 / 146097 = Y) := hY
      rw [hY] at y0 y1
      go_upto_region 7 with fail
      go_upto_if 39 with (go_at_call 9; refine (dby_any _ (by omega) (by omega) _).mono ?_; rintro e w' ⟨rfl, rfl⟩)
      clear hY
      go_cut [8] from 14 to 71 (fun t wc => t = .int .i64 (Cal.yoe d) ∧ wc = w.alloc (.cells #[.int .i64 d] 24))
      case first =>
        by_cases hy : Cal.dby (Y + 1) ≤ Cal.doe d
        · have E : Hid (Cal.yoe d = Y + 1) := by show _ = _; unfold Cal.yoe; rw [HY.out, if_pos hy]
          go_wp2
          go_meet
          case rel => exact ⟨by rw [E.out], rfl⟩
        · have E : Hid (Cal.yoe d = Y) := by show _ = _; unfold Cal.yoe; rw [HY.out, if_neg hy]
          have hy' : decide (Cal.dby (Y + 1) ≤ Cal.doe d) = false := by simpa using hy
          go_wp2
          go_meet
          case rel => exact ⟨by rw [E.out], rfl⟩
      case rest =>
        obtain ⟨rfl, rfl⟩ := hcut
        obtain ⟨q0, q1⟩ := Cal.dby_in (Cal.yoe d) o0 o1
        have hdoy : Cal.doe d - Cal.dby (Cal.yoe d) = Cal.doy d := rfl
        have hmp : (5 * Cal.doy d + 2) / 153 = Cal.mp d := rfl
        have hday : Cal.doy d - (153 * Cal.mp d + 2) / 5 + 1 = Cal.day d := rfl
        clear hdoe
        by_cases hm : 12 < Cal.mp d + 3
        · have f1 : Hid (Cal.year d = Cal.era d * 400 + Cal.yoe d + 1) := by show _ = _; unfold Cal.year; rw [if_pos hm]
          have f2 : Hid (Cal.month d = Cal.mp d + 3 - 12) := by show _ = _; unfold Cal.month; rw [if_pos hm]
          go_wp2_with (go_at_call 9; refine (dby_any _ o0 (by omega) _).mono ?_; rintro e w' ⟨rfl, rfl⟩)
          go_ret3
          exact ⟨by rw [f1.out, f2.out]; rfl, rfl⟩
        · have f1 : Hid (Cal.year d = Cal.era d * 400 + Cal.yoe d) := by show _ = _; unfold Cal.year; rw [if_neg hm]
          have f2 : Hid (Cal.month d = Cal.mp d + 3) := by show _ = _; unfold Cal.month; rw [if_neg hm]
          go_wp2_with (go_at_call 9; refine (dby_any _ o0 (by omega) _).mono ?_; rintro e w' ⟨rfl, rfl⟩)
          go_ret3
          exact ⟨by rw [f1.out, f2.out]; rfl, rfl⟩
end Go.Proofs.YbulkbsqcDoor
