/-
  isNamedHoliday: the loop over the rules.
-/
import Derived.Test.YbulkbsqcDoorRule
namespace Go.Proofs.YbulkbsqcDoor
open Go.RowKit

/-- WHAT THE FIVE NAMED VARIABLES GIVE THE WALKS. -/
structure LD (rb ro fb fo : Nat) (w : World) : Prop where
  five : 4 < w.heap.size
  rlt : rb < w.heap.size
  flt : fb < w.heap.size
  fits : Fits fb fo w
  rhead : w.cell? ⟨1, 0, none⟩ = some (.slice (some ⟨rb, ro, none⟩) 38 38)
  rcell : ∀ (i : Nat) (r : Cal.Rule), Cal.rules[i]? = some r → ∀ j, j < 6 → w.cell? ⟨rb, ro + (i * 6 + j), none⟩ = (RC r)[j]?
  d0 : w.cell? ⟨0, 0, none⟩ = some (.int .i64 5839)
  d2 : w.cell? ⟨2, 0, none⟩ = some (.int .i64 1197)
  d3 : w.cell? ⟨3, 0, none⟩ = some (.int .i64 13514)
theorem LD.below {rb ro fb fo : Nat} {w w' : World} {B : Nat} (h : LD rb ro fb fo w) (hB : w.heap.size ≤ B) (k : Below B w w') : LD rb ro fb fo w' := by
  have h5 := h.five
  have hr := h.rlt
  have hf := h.flt
  have c : ∀ (b o : Nat), b < w.heap.size → w'.cell? ⟨b, o, none⟩ = w.cell? ⟨b, o, none⟩ := fun b o hb => k.cell (p := ⟨b, o, none⟩) (Nat.lt_of_lt_of_le hb hB)
  obtain ⟨hd, a0, a1, a2, b0, b1, b2, c0, c1, c2⟩ := h.fits
  refine ⟨Nat.lt_of_lt_of_le h5 k.size, Nat.lt_of_lt_of_le hr k.size, Nat.lt_of_lt_of_le hf k.size, ⟨?_, ?_, ?_, ?_, ?_, ?_, ?_, ?_, ?_, ?_⟩, ?_, ?_, ?_, ?_, ?_⟩
  · rw [c _ _ h5]; exact hd
  · rw [c _ _ hf]; exact a0
  · rw [c _ _ hf]; exact a1
  · rw [c _ _ hf]; exact a2
  · rw [c _ _ hf]; exact b0
  · rw [c _ _ hf]; exact b1
  · rw [c _ _ hf]; exact b2
  · rw [c _ _ hf]; exact c0
  · rw [c _ _ hf]; exact c1
  · rw [c _ _ hf]; exact c2
  · rw [c _ _ (by omega)]; exact h.rhead
  · intro i r hi j hj; rw [c _ _ hr]; exact h.rcell i r hi j hj
  · rw [c _ _ (by omega)]; exact h.d0
  · rw [c _ _ (by omega)]; exact h.d2
  · rw [c _ _ (by omega)]; exact h.d3

theorem rules_size : Cal.rules.length = 38 := by decide
/-- What holds of every rule. -/
theorem rules_ok : ∀ r ∈ Cal.rules, 1948 ≤ r.first ∧ 0 ≤ r.monday ∧ r.monday ≤ 10 := by decide
theorem day_in (d : Int) : 1 ≤ Cal.day d ∧ Cal.day d ≤ 31 := by
  have h0 := Cal.doy_nonneg d
  unfold Cal.day Cal.mp
  omega
theorem year_le (d : Int) (h : d ≤ 3000000000) : Cal.year d ≤ 10000000 := by
  have h1 := Cal.yoe_in d
  have h2 : Cal.era d ≤ 20600 := by unfold Cal.era; omega
  unfold Cal.year; split <;> omega
theorem year_ge (d : Int) (h : -3000000000 ≤ d) : -10000000 ≤ Cal.year d := by
  have h1 := Cal.yoe_in d
  have h2 : -20600 ≤ Cal.era d := by unfold Cal.era; omega
  unfold Cal.year; split <;> omega
theorem fwd_in (d : Int) : 0 ≤ Cal.fwd d ∧ Cal.fwd d ≤ 6 := by
  unfold Cal.fwd; omega
theorem hit_mon {r : Cal.Rule} {d : Int} (h : (r.mon == Cal.month d) = false) : Cal.hit r d = false := by unfold Cal.hit; rw [h]; rfl
theorem hit_holds {r : Cal.Rule} {d : Int} (h : (r.mon == Cal.month d) = true) (k : Cal.holds r (Cal.year d) = false) : Cal.hit r d = false := by unfold Cal.hit; rw [h, k]; rfl
theorem hit_day {r : Cal.Rule} {d : Int} (h : (r.mon == Cal.month d) = true) (k : Cal.holds r (Cal.year d) = true) : Cal.hit r d = (Cal.dayIn r (Cal.year d) (Cal.fwd d) == Cal.day d) := by unfold Cal.hit; rw [h, k]; rfl
/-- No rule below k hits. -/
def NoHit (d : Int) (k : Nat) : Prop := ∀ j, j < k → ∀ r, Cal.rules[j]? = some r → Cal.hit r d = false
theorem noHit_zero (d : Int) : NoHit d 0 := fun j hj => by omega
theorem noHit_succ {d : Int} {k : Nat} {r : Cal.Rule} (h : NoHit d k) (hr : Cal.rules[k]? = some r) (hh : Cal.hit r d = false) : NoHit d (k + 1) := by
  intro j hj q hq
  by_cases e : j = k
  · subst e; rw [hr] at hq; cases hq; exact hh
  · exact h j (by omega) q hq
theorem named_false {d : Int} (h : NoHit d 38) : Cal.named d = false := by
  unfold Cal.named
  rw [List.any_eq_false]
  intro r hr
  obtain ⟨j, hj, e⟩ := List.getElem_of_mem hr
  have := h j (by rw [rules_size] at hj; exact hj) r (by rw [List.getElem?_eq_getElem hj, e])
  rw [this]; decide
theorem named_true {d : Int} {k : Nat} {r : Cal.Rule} (hr : Cal.rules[k]? = some r) (hh : Cal.hit r d = true) : Cal.named d = true := by
  unfold Cal.named
  rw [List.any_eq_true]
  exact ⟨r, List.mem_of_getElem? hr, hh⟩

set_option maxHeartbeats 2000000 in
theorem named_any (d : Int) (hd : -3000000000 ≤ d) (hd' : d ≤ 3000000000) (rb ro fb fo : Nat) (w : World) (ld : LD rb ro fb fo w) :
    Calls Ybad.prog 15 #[.agg #[.int .i64 d]] w fun e w' => e = .returned (.bool (Cal.named d)) ∧ Below w.heap.size w w' := by
  obtain ⟨wd0, wd1⟩ := Cal.wday_in d
  obtain ⟨dy0, dy1⟩ := day_in d
  have yl := year_le d hd'
  have yg := year_ge d hd
  obtain ⟨fw0, fw1⟩ := fwd_in d
  have L : Hid (LD rb ro fb fo w) := ld
  have FW : Hid ((Cal.wday d - (Cal.day d - 1) % 7 + 7) % 7 = Cal.fwd d) := rfl
  have rh : (((w.alloc (.cells #[.int .i64 d] 24)).alloc (.cells #[.int .i64 d] 24)).alloc (.cells #[.int .i64 d] 24)).cell? ⟨1, 0, none⟩ = some (.slice (some ⟨rb, ro, none⟩) 38 38) := by
    have r5 := ld.five
    rw [World.cell?_alloc_past _ _ _ (by simp only [World.alloc, Array.size_push]; omega), World.cell?_alloc_past _ _ _ (by simp only [World.alloc, Array.size_push]; omega), World.cell?_alloc_past _ _ _ (by show 1 < w.heap.size; omega)]; exact ld.rhead
  clear ld
  go_enter Ybad.func15, Ybad.ntmps15
  go_wp2_with (first
    | (go_at_call 11; refine (date_any d hd hd' _).mono ?_; rintro e w' ⟨rfl, rfl⟩)
    | (go_at_call 12; refine (weekday_any d hd hd' _).mono ?_; rintro e w' ⟨rfl, rfl⟩))
  rw [FW.out]
  go_loopw [25] (fun i wr => ∃ k : Nat, i = .int .i64 k ∧ k ≤ 38 ∧ NoHit d k ∧ Below w.heap.size w wr) (fun i _ => 38 - (intOf i).toNat)
  case atStart => exact ⟨0, rfl, by omega, noHit_zero d, (((Below.refl _ _).alloc (Nat.le_refl _) _).alloc (by simp) _).alloc (by simp; omega) _⟩
  case round =>
    obtain ⟨k, rfl, hk, hno, hb⟩ := hrel
    have HB : Hid (Below w.heap.size w wr) := hb
    have HN : Hid (NoHit d k) := hno
    clear hb hno rh
    by_cases hk' : k < 38
    · obtain ⟨r, hr⟩ : ∃ r, Cal.rules[k]? = some r := ⟨_, List.getElem?_eq_getElem (by rw [rules_size]; exact hk')⟩
      have HR : Hid (Cal.rules[k]? = some r) := hr
      obtain ⟨o1, o2, o3⟩ := rules_ok r (List.mem_of_getElem? hr)
      have L2 : Hid (LD rb ro fb fo wr) := L.out.below (Nat.le_refl _) HB.out
      have q0 : wr.cell? ⟨rb, ro + k * 6, none⟩ = some (.int .i64 r.first) := L2.out.rcell k r hr 0 (by omega)
      have q1 : wr.cell? ⟨rb, ro + k * 6 + 1, none⟩ = some (.int .i64 r.last) := L2.out.rcell k r hr 1 (by omega)
      have q2 : wr.cell? ⟨rb, ro + k * 6 + 2, none⟩ = some (.int .i64 r.mon) := L2.out.rcell k r hr 2 (by omega)
      have q3 : wr.cell? ⟨rb, ro + k * 6 + 3, none⟩ = some (.int .i64 r.dy) := L2.out.rcell k r hr 3 (by omega)
      have q4 : wr.cell? ⟨rb, ro + k * 6 + 4, none⟩ = some (.int .i64 r.monday) := L2.out.rcell k r hr 4 (by omega)
      have q5 : wr.cell? ⟨rb, ro + k * 6 + 5, none⟩ = some (.bool r.eqx) := L2.out.rcell k r hr 5 (by omega)
      clear hr
      cases m0 : r.mon == Cal.month d
      · have Z : Hid (Cal.hit r d = false) := hit_mon m0
        go_wp2
        go_roundw
        case rel => exact ⟨k + 1, by go_num, by omega, noHit_succ HN.out HR.out Z.out, HB.out.alloc HB.out.size _⟩
        case measure => simp [intOf]; omega
      · cases h0 : Cal.holds r (Cal.year d)
        · have Z : Hid (Cal.hit r d = false) := hit_holds m0 h0
          go_wp2_with (go_at_call 17; refine (holds_any r _ _).mono ?_; rintro e w' ⟨rfl, rfl⟩)
          go_roundw
          case rel => exact ⟨k + 1, by go_num, by omega, noHit_succ HN.out HR.out Z.out, (HB.out.alloc HB.out.size _).alloc (Nat.le_trans HB.out.size (by simp)) _⟩
          case measure => simp [intOf]; omega
        · have y0 : 1948 ≤ Cal.year d := by
            have : decide (r.first ≤ Cal.year d) = true := by
              unfold Cal.holds at h0
              exact (Bool.and_eq_true _ _ ▸ h0).1
            have := of_decide_eq_true this
            omega
          have L3 : Hid (LD rb ro fb fo ((wr.alloc (.cells (RC r) 41)).alloc (.cells (RC r) 41))) := L2.out.below (Nat.le_refl _) (((Below.refl _ _).alloc (Nat.le_refl _) _).alloc (by simp) _)
          cases e0 : Cal.dayIn r (Cal.year d) (Cal.fwd d) == Cal.day d
          · have Z : Hid (Cal.hit r d = false) := by show _ = _; rw [hit_day m0 h0]; exact e0
            go_wp2_with (first
              | (go_at_call 17; refine (holds_any r _ _).mono ?_; rintro e w' ⟨rfl, rfl⟩)
              | (go_at_call 18; refine (dayIn_any r _ _ fb fo _ L3.out.five L3.out.flt L3.out.fits y0 yl fw0 fw1 o2 o3).mono ?_; rintro e w' ⟨rfl, rfl⟩))
            go_roundw
            case rel => exact ⟨k + 1, by go_num, by omega, noHit_succ HN.out HR.out Z.out, ((HB.out.alloc HB.out.size _).alloc (Nat.le_trans HB.out.size (by simp)) _).alloc (Nat.le_trans HB.out.size (by simp; omega)) _⟩
            case measure => simp [intOf]; omega
          · have Z : Hid (Cal.named d = true) := named_true HR.out (by rw [hit_day m0 h0]; exact e0)
            go_wp2_with (first
              | (go_at_call 17; refine (holds_any r _ _).mono ?_; rintro e w' ⟨rfl, rfl⟩)
              | (go_at_call 18; refine (dayIn_any r _ _ fb fo _ L3.out.five L3.out.flt L3.out.fits y0 yl fw0 fw1 o2 o3).mono ?_; rintro e w' ⟨rfl, rfl⟩))
            go_ret
            exact ⟨by rw [Z.out]; rfl, ((HB.out.alloc HB.out.size _).alloc (Nat.le_trans HB.out.size (by simp)) _).alloc (Nat.le_trans HB.out.size (by simp; omega)) _⟩
    · obtain rfl : k = 38 := by omega
      have Z : Hid (Cal.named d = false) := named_false HN.out
      go_wp2
      go_ret
      exact ⟨by rw [Z.out]; rfl, HB.out⟩
end Go.Proofs.YbulkbsqcDoor
