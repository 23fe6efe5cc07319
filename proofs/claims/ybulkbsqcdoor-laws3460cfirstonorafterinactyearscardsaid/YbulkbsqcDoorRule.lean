/-
  The contracts of a holiday rule's functions: holdsIn, equinoxDay, dayIn.
-/
import Derived.Test.YbulkbsqcDoorDate
import Derived.LoopTactic
import Derived.Deep.RegionWith
namespace Go.Proofs.YbulkbsqcDoor
open Go.RowKit

abbrev RC (r : Cal.Rule) : Array Value := #[.int .i64 r.first, .int .i64 r.last, .int .i64 r.mon, .int .i64 r.dy, .int .i64 r.monday, .bool r.eqx]

theorem holds_any (r : Cal.Rule) (y : Int) (w : World) :
    Calls Ybad.prog 17 #[.agg (RC r), .int .i64 y] w fun e w' => e = .returned (.bool (Cal.holds r y)) ∧ w' = w.alloc (.cells (RC r) 41) := by
  cases h1 : decide (r.first ≤ y)
  · have H : Hid (Cal.holds r y = false) := by show _ = _; unfold Cal.holds; rw [h1]; rfl
    go_enter Ybad.func17, Ybad.ntmps17
    go_wp2
    go_ret
    exact ⟨by rw [H.out]; rfl, rfl⟩
  · cases h2 : r.last == 0
    · have H : Hid (Cal.holds r y = decide (y ≤ r.last)) := by show _ = _; unfold Cal.holds; rw [h1, h2]; rfl
      go_enter Ybad.func17, Ybad.ntmps17
      go_wp2
      go_ret
      exact ⟨by rw [H.out]; rfl, rfl⟩
    · have H : Hid (Cal.holds r y = true) := by show _ = _; unfold Cal.holds; rw [h1, h2]; rfl
      go_enter Ybad.func17, Ybad.ntmps17
      go_wp2
      go_ret
      exact ⟨by rw [H.out]; rfl, rfl⟩

/-- WHAT THE TABLE 'equinoxFits' GIVES. -/
structure Fits (fb fo : Nat) (w : World) : Prop where
  head : w.cell? ⟨4, 0, none⟩ = some (.slice (some ⟨fb, fo, none⟩) 3 3)
  a0 : w.cell? ⟨fb, fo, none⟩ = some (.int .i64 1900)
  a1 : w.cell? ⟨fb, fo + 1, none⟩ = some (.int .i64 20835700)
  a2 : w.cell? ⟨fb, fo + 2, none⟩ = some (.int .i64 23258800)
  b0 : w.cell? ⟨fb, fo + 3, none⟩ = some (.int .i64 1980)
  b1 : w.cell? ⟨fb, fo + 4, none⟩ = some (.int .i64 20843100)
  b2 : w.cell? ⟨fb, fo + 5, none⟩ = some (.int .i64 23248800)
  c0 : w.cell? ⟨fb, fo + 6, none⟩ = some (.int .i64 2100)
  c1 : w.cell? ⟨fb, fo + 7, none⟩ = some (.int .i64 20851000)
  c2 : w.cell? ⟨fb, fo + 8, none⟩ = some (.int .i64 23248800)

set_option maxHeartbeats 1000000 in
theorem eqday_any (y m : Int) (fb fo : Nat) (w : World) (hf : Fits fb fo w) (h0 : 1948 ≤ y) (h1 : y ≤ 10000000) :
    Calls Ybad.prog 19 #[.int .i64 y, .int .i64 m] w fun e w' => e = .returned (.int .i64 (Cal.eqday y m)) ∧ w' = w := by
  obtain ⟨hd, a0, a1, a2, b0, b1, b2, c0, c1, c2⟩ := hf
  obtain ⟨l0, l1⟩ : 0 ≤ Cal.leap y ∧ Cal.leap y ≤ 3000000 := by unfold Cal.leap; omega
  have l80 : Cal.leap 1980 = 480 := by decide
  go_enter Ybad.func19, Ybad.ntmps19
  go_wp2
  go_loop [5] (fun i => i = .int .i64 2 ∨ (i = .int .i64 1 ∧ y < 2100) ∨ (i = .int .i64 0 ∧ y < 1980)) (fun i => (intOf i).toNat)
  case atStart => exact .inl rfl
  case round =>
    rcases hrel with rfl | ⟨rfl, hy⟩ | ⟨rfl, hy⟩
    · by_cases hy : y < 2100
      · go_wp2
        exact ⟨.inr (.inl ⟨rfl, hy⟩), by decide⟩
      · have hy' : ¬ y < 1980 := by omega
        cases hm : m == 9
        · have hm9 : m ≠ 9 := by simpa using hm
          have E : Hid (Cal.eqday y m = (20851000 + 242194 * (y - 1980)) / 1000000 - (Cal.leap y - 480)) := by show _ = _; unfold Cal.eqday Cal.fit; rw [if_neg hy', if_neg hy, if_neg hm9]
          clear hm9
          go_wp2_with (first | (go_at_call_of 14 (Value.int IntKind.i64 y); refine (leap_any y (by omega) (by omega) _).mono ?_; rintro e w' ⟨rfl, rfl⟩) | (go_at_call 14; refine (leap_any 1980 (by omega) (by omega) _).mono ?_; rintro e w' ⟨rfl, rfl⟩))
          go_ret
          exact ⟨by rw [E.out]; exact ret_int (by omega), rfl⟩
        · have hm9 : m = 9 := by simpa using hm
          have E : Hid (Cal.eqday y m = (23248800 + 242194 * (y - 1980)) / 1000000 - (Cal.leap y - 480)) := by show _ = _; unfold Cal.eqday Cal.fit; rw [if_neg hy', if_neg hy, if_pos hm9]
          clear hm9
          go_wp2_with (first | (go_at_call_of 14 (Value.int IntKind.i64 y); refine (leap_any y (by omega) (by omega) _).mono ?_; rintro e w' ⟨rfl, rfl⟩) | (go_at_call 14; refine (leap_any 1980 (by omega) (by omega) _).mono ?_; rintro e w' ⟨rfl, rfl⟩))
          go_ret
          exact ⟨by rw [E.out]; exact ret_int (by omega), rfl⟩
    · by_cases hy2 : y < 1980
      · go_wp2
        exact ⟨.inr (.inr ⟨rfl, hy2⟩), by decide⟩
      · have hyd : decide (y < 1980) = false := by simpa using hy2
        cases hm : m == 9
        · have hm9 : m ≠ 9 := by simpa using hm
          have E : Hid (Cal.eqday y m = (20843100 + 242194 * (y - 1980)) / 1000000 - (Cal.leap y - 480)) := by show _ = _; unfold Cal.eqday Cal.fit; rw [if_neg hy2, if_pos hy, if_neg hm9]
          clear hm9
          go_wp2_with (first | (go_at_call_of 14 (Value.int IntKind.i64 y); refine (leap_any y (by omega) (by omega) _).mono ?_; rintro e w' ⟨rfl, rfl⟩) | (go_at_call 14; refine (leap_any 1980 (by omega) (by omega) _).mono ?_; rintro e w' ⟨rfl, rfl⟩))
          go_ret
          exact ⟨by rw [E.out]; exact ret_int (by omega), rfl⟩
        · have hm9 : m = 9 := by simpa using hm
          have E : Hid (Cal.eqday y m = (23248800 + 242194 * (y - 1980)) / 1000000 - (Cal.leap y - 480)) := by show _ = _; unfold Cal.eqday Cal.fit; rw [if_neg hy2, if_pos hy, if_pos hm9]
          clear hm9
          go_wp2_with (first | (go_at_call_of 14 (Value.int IntKind.i64 y); refine (leap_any y (by omega) (by omega) _).mono ?_; rintro e w' ⟨rfl, rfl⟩) | (go_at_call 14; refine (leap_any 1980 (by omega) (by omega) _).mono ?_; rintro e w' ⟨rfl, rfl⟩))
          go_ret
          exact ⟨by rw [E.out]; exact ret_int (by omega), rfl⟩
    · skip
      cases hm : m == 9
      · have hm9 : m ≠ 9 := by simpa using hm
        have E : Hid (Cal.eqday y m = (20835700 + 242194 * (y - 1980)) / 1000000 - (Cal.leap y - 480)) := by show _ = _; unfold Cal.eqday Cal.fit; rw [if_pos hy, if_neg hm9]
        clear hm9
        go_wp2_with (first | (go_at_call_of 14 (Value.int IntKind.i64 y); refine (leap_any y (by omega) (by omega) _).mono ?_; rintro e w' ⟨rfl, rfl⟩) | (go_at_call 14; refine (leap_any 1980 (by omega) (by omega) _).mono ?_; rintro e w' ⟨rfl, rfl⟩))
        go_ret
        exact ⟨by rw [E.out]; exact ret_int (by omega), rfl⟩
      · have hm9 : m = 9 := by simpa using hm
        have E : Hid (Cal.eqday y m = (23258800 + 242194 * (y - 1980)) / 1000000 - (Cal.leap y - 480)) := by show _ = _; unfold Cal.eqday Cal.fit; rw [if_pos hy, if_pos hm9]
        clear hm9
        go_wp2_with (first | (go_at_call_of 14 (Value.int IntKind.i64 y); refine (leap_any y (by omega) (by omega) _).mono ?_; rintro e w' ⟨rfl, rfl⟩) | (go_at_call 14; refine (leap_any 1980 (by omega) (by omega) _).mono ?_; rintro e w' ⟨rfl, rfl⟩))
        go_ret
        exact ⟨by rw [E.out]; exact ret_int (by omega), rfl⟩

theorem dayIn_any (r : Cal.Rule) (y f : Int) (fb fo : Nat) (w : World) (hb4 : 4 < w.heap.size) (hbf : fb < w.heap.size) (hf : Fits fb fo w) (h0 : 1948 ≤ y) (h1 : y ≤ 10000000) (f0 : 0 ≤ f) (f1 : f ≤ 6) (m0 : 0 ≤ r.monday) (m1 : r.monday ≤ 10) :
    Calls Ybad.prog 18 #[.agg (RC r), .int .i64 y, .int .i64 f] w fun e w' => e = .returned (.int .i64 (Cal.dayIn r y f)) ∧ w' = w.alloc (.cells (RC r) 41) := by
  have hf' : Hid (Fits fb fo (w.alloc (.cells (RC r) 41))) := by
    obtain ⟨hd, a0, a1, a2, b0, b1, b2, c0, c1, c2⟩ := hf
    refine ⟨?_, ?_, ?_, ?_, ?_, ?_, ?_, ?_, ?_, ?_⟩
    · rw [World.cell?_alloc_past _ _ _ hb4]; exact hd
    all_goals (rw [World.cell?_alloc_past _ _ _ hbf]; assumption)
  clear hf
  by_cases hm : 0 < r.monday
  · have E : Hid (Cal.dayIn r y f = 1 + (1 - f + 7) % 7 + 7 * (r.monday - 1)) := by show _ = _; unfold Cal.dayIn; rw [if_pos hm]
    go_enter Ybad.func18, Ybad.ntmps18
    go_wp2
    go_ret
    exact ⟨by rw [E.out]; exact ret_int (by omega), rfl⟩
  · have hm' : decide (0 < r.monday) = false := by simpa using hm
    cases he : r.eqx
    · have E : Hid (Cal.dayIn r y f = r.dy) := by show _ = _; unfold Cal.dayIn; rw [if_neg hm, he]; rfl
      go_enter Ybad.func18, Ybad.ntmps18
      go_wp2
      go_ret
      exact ⟨by rw [E.out]; rfl, rfl⟩
    · have E : Hid (Cal.dayIn r y f = Cal.eqday y r.mon) := by show _ = _; unfold Cal.dayIn; rw [if_neg hm, he]; rfl
      go_enter Ybad.func18, Ybad.ntmps18
      go_wp2_with (go_at_call 19; refine (eqday_any y r.mon fb fo _ ?_ h0 h1).mono ?_; exact hf'; rintro e w' ⟨rfl, rfl⟩)
      go_ret
      exact ⟨by rw [E.out]; rfl, rfl⟩
end Go.Proofs.YbulkbsqcDoor
