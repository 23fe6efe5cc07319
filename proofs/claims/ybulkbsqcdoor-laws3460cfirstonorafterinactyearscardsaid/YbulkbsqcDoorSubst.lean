/-
  isSubstituteHoliday: the walk back over named holidays.
-/
import Derived.Test.YbulkbsqcDoorNamed
namespace Go.Proofs.YbulkbsqcDoor
open Go.RowKit

theorem LD.alloc {rb ro fb fo : Nat} {w : World} (h : LD rb ro fb fo w) (o : Obj) : LD rb ro fb fo (w.alloc o) := h.below (Nat.le_refl _) ((Below.refl _ _).alloc (Nat.le_refl _) o)
theorem sz_alloc (w : World) (o : Obj) : (w.alloc o).heap.size = w.heap.size + 1 := by show (w.heap.push o).size = _; simp

theorem named_thousand : Cal.named 1000 = false := by decide +kernel
theorem back_no {d e : Int} {n : Nat} (h : Cal.named e = false) : Cal.back d n e = false := by
  cases n with
  | zero => rfl
  | succ n => simp [Cal.back, h]
theorem back_sun {d e : Int} (h0 : 1000 ≤ e) (h : Cal.named e = true) (s : (Cal.wday e == 0) = true) : Cal.back d (e - 998).toNat e = true := by
  obtain ⟨n, hn⟩ : ∃ n, (e - 998).toNat = n + 1 := ⟨(e - 999).toNat, by omega⟩
  rw [hn]; simp only [Cal.back, h, s, if_true]
theorem back_one {d e : Int} (h0 : 1000 ≤ e) (h : Cal.named e = true) (s : (Cal.wday e == 0) = false) (k : d < 13514) : Cal.back d (e - 998).toNat e = false := by
  obtain ⟨n, hn⟩ : ∃ n, (e - 998).toNat = n + 1 := ⟨(e - 999).toNat, by omega⟩
  rw [hn]; simp only [Cal.back, h, s, if_true, if_pos k]; rfl
theorem back_on {d e : Int} (h0 : 1000 ≤ e) (h : Cal.named e = true) (s : (Cal.wday e == 0) = false) (k : ¬ d < 13514) : Cal.back d (e - 998).toNat e = Cal.back d (e - 1 - 998).toNat (e - 1) := by
  have hn : (e - 998).toNat = (e - 1 - 998).toNat + 1 := by omega
  rw [hn]; simp only [Cal.back, h, s, if_true, if_neg k]; rfl
theorem subst_back {d : Int} (h : ¬ d < 1197) : Cal.subst d = Cal.back d (d - 1 - 998).toNat (d - 1) := by
  unfold Cal.subst; rw [if_neg h, show d - 999 = d - 1 - 998 by omega]

/-- The day that the box behind a pointer holds. -/
def boxed (t : Value) (w : World) : Nat := match t with | .pointer (some a) => (intOf ((w.cell? a).getD undef)).toNat | _ => 0
theorem boxed_of {w : World} {a : Addr} {e : Int} (h : w.cell? a = some (.int .i64 e)) : boxed (.pointer (some a)) w = e.toNat := by simp [boxed, h, intOf]

set_option maxHeartbeats 1000000 in
theorem subst_any (d : Int) (hd : -2999999999 ≤ d) (hd' : d ≤ 2999999999) (rb ro fb fo : Nat) (w : World) (ld : LD rb ro fb fo w) :
    Calls Ybad.prog 16 #[.agg #[.int .i64 d]] w fun e w' => e = .returned (.bool (Cal.subst d)) ∧ Below w.heap.size w w' := by
  have L : Hid (LD rb ro fb fo w) := ld
  have g5 := ld.five
  have d2 : (w.alloc (.cells #[.int .i64 d] 24)).cell? ⟨2, 0, none⟩ = some (.int .i64 1197) := (ld.alloc _).d2
  clear ld
  by_cases h0 : d < 1197
  · have Z : Hid (Cal.subst d = false) := by show _ = _; unfold Cal.subst; rw [if_pos h0]
    go_enter Ybad.func16, Ybad.ntmps16
    go_wp2
    go_ret
    exact ⟨by rw [Z.out]; rfl, (Below.refl _ _).alloc (Nat.le_refl _) _⟩
  · have Z : Hid (Cal.subst d = Cal.back d (d - 1 - 998).toNat (d - 1)) := subst_back h0
    have h0' : decide (d < 1197) = false := by simpa using h0
    go_enter Ybad.func16, Ybad.ntmps16
    go_wp2_with (go_at_call 10; refine (addDays_any d (-1) (by omega) (by omega) (by omega) (by omega) _).mono ?_; rintro e w' ⟨rfl, rfl⟩)
    go_loopw [3] (fun t wr => ∃ e g, t = .pointer (some ⟨g, 0, none⟩) ∧ wr.cell? ⟨g, 0, none⟩ = some (.int .i64 e) ∧ wr.cell? ⟨w.heap.size, 0, none⟩ = some (.int .i64 d) ∧ 1000 ≤ e ∧ e < d ∧ Cal.subst d = Cal.back d (e - 998).toNat e ∧ w.heap.size < wr.heap.size ∧ g < wr.heap.size ∧ Below w.heap.size w wr) (fun t wr => boxed t wr)
    case atStart =>
      refine ⟨d - 1, _, rfl, ?_, ?_, by omega, by omega, Z.out, ?_, ?_, ?_⟩
      · go_simp
        rfl
      · go_simp
      · simp
        omega
      · simp
      · exact ((((Below.refl _ _).alloc (Nat.le_refl _) _).alloc (by simp) _).alloc (by simp; omega) _).alloc (by simp; omega) _
    case round =>
      obtain ⟨e, g, rfl, ce, cd, e0, e1, hs, lw, lg, hb⟩ := hrel
      have HB : Hid (Below w.heap.size w wr) := hb
      have HS : Hid (Cal.subst d = Cal.back d (e - 998).toNat e) := hs
      have L2 : Hid (LD rb ro fb fo wr) := L.out.below (Nat.le_refl _) HB.out
      have CE : Hid (wr.cell? ⟨g, 0, none⟩ = some (.int .i64 e)) := ce
      have CD : Hid (wr.cell? ⟨w.heap.size, 0, none⟩ = some (.int .i64 d)) := cd
      clear hb hs d2 cd
      cases hn : Cal.named e
      · have Z2 : Hid (Cal.subst d = false) := by show _ = _; rw [HS.out]; exact back_no hn
        go_wp2_with (go_at_call 15; refine (named_any e (by omega) (by omega) rb ro fb fo _ L2.out).mono ?_; rintro e' w1 ⟨rfl, hb1⟩)
        go_ret
        exact ⟨by rw [Z2.out]; rfl, HB.out.trans (hb1.mono HB.out.size)⟩
      · have e9 : e ≠ 1000 := by intro h; rw [h, named_thousand] at hn; cases hn
        have HNA : Hid (Cal.named e = true) := hn
        cases hw : Cal.wday e == 0
        · have HW : Hid ((Cal.wday e == 0) = false) := hw
          by_cases hd3 : d < 13514
          · have Z2 : Hid (Cal.subst d = false) := by show _ = _; rw [HS.out]; exact back_one e0 hn hw hd3
            go_wp2_with (first
              | (go_at_call 15; refine (named_any e (by omega) (by omega) rb ro fb fo _ L2.out).mono ?_; rintro e' w1 ⟨rfl, hb1⟩; have c1 : w1.cell? ⟨g, 0, none⟩ = some (.int .i64 e) := (hb1.cell (p := ⟨g, 0, none⟩) lg).trans CE.out; have c2 : w1.cell? ⟨w.heap.size, 0, none⟩ = some (.int .i64 d) := (hb1.cell (p := ⟨w.heap.size, 0, none⟩) lw).trans CD.out; have L3 : Hid (LD rb ro fb fo w1) := L2.out.below (Nat.le_refl _) hb1; have c3 : (w1.alloc (.cells #[.int .i64 e] 24)).cell? ⟨3, 0, none⟩ = some (.int .i64 13514) := (L3.out.alloc _).d3; have z1 : w.heap.size < w1.heap.size := Nat.lt_of_lt_of_le lw hb1.size; have z2 : g < w1.heap.size := Nat.lt_of_lt_of_le lg hb1.size; have HB1 : Hid (Below wr.heap.size wr w1) := hb1; clear hb1)
              | (go_at_call 12; refine (weekday_any e (by omega) (by omega) _).mono ?_; rintro e' w2 ⟨rfl, rfl⟩))
            go_ret
            exact ⟨by rw [Z2.out]; rfl, ((HB.out.trans (HB1.out.mono HB.out.size)).alloc (by omega) _)⟩
          · have hd3' : decide (d < 13514) = false := by simpa using hd3
            have Z2 : Hid (Cal.subst d = Cal.back d (e - 1 - 998).toNat (e - 1)) := by show _ = _; rw [HS.out]; exact back_on e0 hn hw hd3
            go_wp2_with (first
              | (go_at_call 15; refine (named_any e (by omega) (by omega) rb ro fb fo _ L2.out).mono ?_; rintro e' w1 ⟨rfl, hb1⟩; have c1 : w1.cell? ⟨g, 0, none⟩ = some (.int .i64 e) := (hb1.cell (p := ⟨g, 0, none⟩) lg).trans CE.out; have c2 : w1.cell? ⟨w.heap.size, 0, none⟩ = some (.int .i64 d) := (hb1.cell (p := ⟨w.heap.size, 0, none⟩) lw).trans CD.out; have L3 : Hid (LD rb ro fb fo w1) := L2.out.below (Nat.le_refl _) hb1; have c3 : (w1.alloc (.cells #[.int .i64 e] 24)).cell? ⟨3, 0, none⟩ = some (.int .i64 13514) := (L3.out.alloc _).d3; have z1 : w.heap.size < w1.heap.size := Nat.lt_of_lt_of_le lw hb1.size; have z2 : g < w1.heap.size := Nat.lt_of_lt_of_le lg hb1.size; have HB1 : Hid (Below wr.heap.size wr w1) := hb1; clear hb1)
              | (go_at_call 12; refine (weekday_any e (by omega) (by omega) _).mono ?_; rintro e' w2 ⟨rfl, rfl⟩)
              | (go_at_call 10; refine (addDays_any e (-1) (by omega) (by omega) (by omega) (by omega) _).mono ?_; rintro e' w2 ⟨rfl, rfl⟩))
            have cn : ((((w1.alloc (.cells #[.int .i64 e] 24)).alloc (.cells #[.int .i64 (e + -1)] 24)).alloc (.cells #[.int .i64 e] 24)).alloc (.cells #[.int .i64 (e + -1)] 24)).cell? ⟨w1.heap.size + 1, 0, none⟩ = some (.int .i64 (e - 1)) := by
              rw [World.cell?_alloc_past _ _ _ (by simp only [sz_alloc]; omega), World.cell?_alloc_past _ _ _ (by simp only [sz_alloc]; omega), World.cell?_alloc_at _ _ _ _ (by simp only [sz_alloc])]; rfl
            have cm : ((((w1.alloc (.cells #[.int .i64 e] 24)).alloc (.cells #[.int .i64 (e + -1)] 24)).alloc (.cells #[.int .i64 e] 24)).alloc (.cells #[.int .i64 (e + -1)] 24)).cell? ⟨w.heap.size, 0, none⟩ = some (.int .i64 d) := by
              rw [World.cell?_alloc_past _ _ _ (by simp only [sz_alloc]; omega), World.cell?_alloc_past _ _ _ (by simp only [sz_alloc]; omega), World.cell?_alloc_past _ _ _ (by simp only [sz_alloc]; omega), World.cell?_alloc_past _ _ _ z1]; exact c2
            refine ⟨⟨e - 1, _, rfl, cn, cm, by omega, by omega, Z2.out, by simp only [sz_alloc]; omega, by simp only [sz_alloc]; omega, ?_⟩, ?_⟩
            · exact ((((HB.out.trans (HB1.out.mono HB.out.size)).alloc (by omega) _).alloc (by simp only [sz_alloc]; omega) _).alloc (by simp only [sz_alloc]; omega) _).alloc (by simp only [sz_alloc]; omega) _
            · rw [boxed_of cn, boxed_of CE.out]; omega
        · have Z2 : Hid (Cal.subst d = true) := by show _ = _; rw [HS.out]; exact back_sun e0 hn hw
          go_wp2_with (first
            | (go_at_call 15; refine (named_any e (by omega) (by omega) rb ro fb fo _ L2.out).mono ?_; rintro e' w1 ⟨rfl, hb1⟩; have c1 : w1.cell? ⟨g, 0, none⟩ = some (.int .i64 e) := (hb1.cell (p := ⟨g, 0, none⟩) lg).trans CE.out; have z1 : w.heap.size < w1.heap.size := Nat.lt_of_lt_of_le lw hb1.size; have z2 : g < w1.heap.size := Nat.lt_of_lt_of_le lg hb1.size; have HB1 : Hid (Below wr.heap.size wr w1) := hb1; clear hb1)
            | (go_at_call 12; refine (weekday_any e (by omega) (by omega) _).mono ?_; rintro e' w2 ⟨rfl, rfl⟩))
          go_ret
          exact ⟨by rw [Z2.out]; rfl, ((HB.out.trans (HB1.out.mono HB.out.size)).alloc (by omega) _)⟩
end Go.Proofs.YbulkbsqcDoor
