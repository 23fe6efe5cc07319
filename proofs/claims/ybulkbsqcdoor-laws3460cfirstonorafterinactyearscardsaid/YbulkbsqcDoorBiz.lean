/-
  isNationalHoliday, IsBankBusinessDay, NextBankBusinessDay.
-/
import Derived.Test.YbulkbsqcDoorSubst
namespace Go.Proofs.YbulkbsqcDoor
open Go.RowKit

/-- The day's own box, the first new block. -/
structure Bx (w : World) (d : Int) (w' : World) : Prop where
  bel : Below w.heap.size w w'
  cell : w'.cell? ⟨w.heap.size, 0, none⟩ = some (.int .i64 d)
  lt : w.heap.size < w'.heap.size
theorem Bx.start (w : World) (d : Int) : Bx w d (w.alloc (.cells #[.int .i64 d] 24)) :=
  ⟨(Below.refl _ _).alloc (Nat.le_refl _) _, by rw [World.cell?_alloc_at _ _ _ _ rfl]; rfl, by rw [sz_alloc]; omega⟩
theorem Bx.step {w : World} {d : Int} {w1 w2 : World} (h : Bx w d w1) (k : Below w1.heap.size w1 w2) : Bx w d w2 :=
  ⟨h.bel.trans (k.mono h.bel.size), (k.cell (p := ⟨w.heap.size, 0, none⟩) h.lt).trans h.cell, Nat.lt_of_lt_of_le h.lt k.size⟩
theorem Bx.alloc' {w : World} {d : Int} {w1 : World} (h : Bx w d w1) (o : Obj) : Bx w d (w1.alloc o) := h.step ((Below.refl _ _).alloc (Nat.le_refl _) o)
theorem Bx.ld {rb ro fb fo : Nat} {w : World} {d : Int} {w1 : World} (h : Bx w d w1) (l : LD rb ro fb fo w) : LD rb ro fb fo w1 := l.below (Nat.le_refl _) h.bel

set_option maxHeartbeats 1000000 in
theorem national_any (d : Int) (hd : -2999999998 ≤ d) (hd' : d ≤ 2999999998) (rb ro fb fo : Nat) (w : World) (ld : LD rb ro fb fo w) :
    Calls Ybad.prog 13 #[.agg #[.int .i64 d]] w fun e w' => e = .returned (.bool (Cal.national d)) ∧ Below w.heap.size w w' := by
  have L : Hid (LD rb ro fb fo w) := ld
  clear ld
  have B0 : Hid (Bx w d (w.alloc (.cells #[.int .i64 d] 24))) := Bx.start w d
  go_enter Ybad.func13, Ybad.ntmps13
  go_upto_region 1 with fail
  go_cut [5] from 4 to 5 (fun t wx => t = .bool (Cal.named d) ∧ Bx w d wx)
  case first =>
    go_wp2_with (go_at_call 15; refine (named_any d (by omega) (by omega) rb ro fb fo _ (B0.out.ld L.out)).mono ?_; rintro e w1 ⟨rfl, hb⟩; have B1 : Hid (Bx w d w1) := B0.out.step hb; clear hb)
    go_meet
    case rel => exact ⟨rfl, B1.out⟩
  case rest =>
    obtain ⟨rfl, hb⟩ := hcut
    clear B0
    have B1 : Hid (Bx w d wc) := hb
    clear hb
    cases hn : Cal.named d
    · have HN : Hid (Cal.named d = false) := hn
      go_upto_region 3 with fail
      go_cut [3] from 6 to 13 (fun t wx => t = .bool (Cal.named (d - 1) && Cal.named (d + 1)) ∧ Bx w d wx)
      case first =>
        have c1 := B1.out.cell
        have z1 := B1.out.lt
        have e1 : d + -1 = d - 1 := by omega
        cases n1 : Cal.named (d - 1)
        · go_wp2_with (first
            | (go_at_call 10; refine (addDays_any d _ (by omega) (by omega) (by omega) (by omega) _).mono ?_; rintro e w2 ⟨rfl, rfl⟩)
            | (go_at_call 15; refine (named_any _ (by omega) (by omega) rb ro fb fo _ (by first | exact ((B2.out.alloc' _).alloc' _).ld L.out | exact ((B1.out.alloc' _).alloc' _).ld L.out)).mono ?_; rintro e w2 ⟨rfl, hb⟩; have B2 : Hid (Bx w d w2) := (by first | exact ((B2.out.alloc' _).alloc' _).step hb | exact ((B1.out.alloc' _).alloc' _).step hb); have c2 := B2.out.cell; have z2 := B2.out.lt; clear hb))
          go_meet
          case rel => exact ⟨by simp [n1], B2.out⟩
        · go_wp2_with (first
            | (go_at_call 10; refine (addDays_any d _ (by omega) (by omega) (by omega) (by omega) _).mono ?_; rintro e w2 ⟨rfl, rfl⟩)
            | (go_at_call 15; refine (named_any _ (by omega) (by omega) rb ro fb fo _ (by first | exact ((B2.out.alloc' _).alloc' _).ld L.out | exact ((B1.out.alloc' _).alloc' _).ld L.out)).mono ?_; rintro e w2 ⟨rfl, hb⟩; have B2 : Hid (Bx w d w2) := (by first | exact ((B2.out.alloc' _).alloc' _).step hb | exact ((B1.out.alloc' _).alloc' _).step hb); have c2 := B2.out.cell; have z2 := B2.out.lt; clear hb))
          go_meet
          case rel => exact ⟨by simp [n1], B2.out⟩
      case rest =>
        obtain ⟨rfl, hb⟩ := hcut
        clear B1
        have B1 : Hid (Bx w d wc) := hb
        clear hb
        have c1 := B1.out.cell
        have z1 := B1.out.lt
        have c0 : wc.cell? ⟨0, 0, none⟩ = some (.int .i64 5839) := (B1.out.ld L.out).d0
        cases ha : Cal.named (d - 1) && Cal.named (d + 1)
        · have Z : Hid (Cal.national d = Cal.subst d) := by show _ = _; unfold Cal.national; rw [hn, ha]; rfl
          go_wp2_with (go_at_call 16; refine (subst_any d (by omega) (by omega) rb ro fb fo _ (B1.out.ld L.out)).mono ?_; rintro e w2 ⟨rfl, hb⟩)
          go_ret
          exact ⟨by rw [Z.out]; rfl, (B1.out.step hb).bel⟩
        · by_cases h5 : 5839 ≤ d
          · have Z : Hid (Cal.national d = true) := by show _ = _; unfold Cal.national; rw [hn, ha, decide_eq_true h5]; rfl
            go_wp2
            go_ret
            exact ⟨by rw [Z.out]; rfl, B1.out.bel⟩
          · have h5' : decide (5839 ≤ d) = false := by simpa using h5
            have Z : Hid (Cal.national d = Cal.subst d) := by show _ = _; unfold Cal.national; rw [hn, ha, h5']; rfl
            go_wp2_with (go_at_call 16; refine (subst_any d (by omega) (by omega) rb ro fb fo _ (B1.out.ld L.out)).mono ?_; rintro e w2 ⟨rfl, hb⟩)
            go_ret
            exact ⟨by rw [Z.out]; rfl, (B1.out.step hb).bel⟩
    · have Z : Hid (Cal.national d = true) := by show _ = _; unfold Cal.national; rw [hn]; rfl
      go_wp2
      go_ret
      exact ⟨by rw [Z.out]; rfl, B1.out.bel⟩

set_option maxHeartbeats 1000000 in
theorem biz_any (d : Int) (hd : -2999999998 ≤ d) (hd' : d ≤ 2999999998) (rb ro fb fo : Nat) (w : World) (ld : LD rb ro fb fo w) :
    Calls Ybad.prog 8 #[.agg #[.int .i64 d]] w fun e w' => e = .returned (.bool (Cal.biz d)) ∧ Below w.heap.size w w' := by
  have L : Hid (LD rb ro fb fo w) := ld
  clear ld
  have B0 : Hid (Bx w d (w.alloc (.cells #[.int .i64 d] 24))) := Bx.start w d
  go_enter Ybad.func8, Ybad.ntmps8
  go_upto_region 1 with fail
  go_cut [4, 5] from 3 to 11 (fun s4 s5 wx => s4 = .int .i64 (Cal.month d) ∧ s5 = .int .i64 (Cal.day d) ∧ Bx w d wx)
  case first =>
    go_wp2_with (go_at_call 11; refine (date_any d (by omega) (by omega) _).mono ?_; rintro e w1 ⟨rfl, rfl⟩)
    go_meet
    case rel => exact ⟨rfl, rfl, B0.out.alloc' _⟩
  case rest =>
    obtain ⟨rfl, rfl, hb⟩ := hcut
    clear B0
    have B1 : Hid (Bx w d wc) := hb
    clear hb
    have c1 := B1.out.cell
    have z1 := B1.out.lt
    go_upto_region 2 with fail
    go_cut [12] from 13 to 20 (fun t wx => t = .bool (Cal.wday d == 6 || Cal.wday d == 0) ∧ Bx w d wx)
    case first =>
      cases h6 : Cal.wday d == 6
      · go_wp2_with (go_at_call 12; refine (weekday_any d (by omega) (by omega) _).mono ?_; rintro e w1 ⟨rfl, rfl⟩)
        go_meet
        case rel => exact ⟨by simp [h6], (B1.out.alloc' _).alloc' _⟩
      · go_wp2_with (go_at_call 12; refine (weekday_any d (by omega) (by omega) _).mono ?_; rintro e w1 ⟨rfl, rfl⟩)
        go_meet
        case rel => exact ⟨by simp [h6], B1.out.alloc' _⟩
    case rest =>
      obtain ⟨rfl, hb⟩ := hcut
      clear B1 c1 z1
      have B1 : Hid (Bx w d wc) := hb
      clear hb
      have c1 := B1.out.cell
      have z1 := B1.out.lt
      cases h6 : Cal.wday d == 6 || Cal.wday d == 0
      · cases m12 : Cal.month d == 12
        · cases m1 : Cal.month d == 1
          · have Z : Hid (Cal.biz d = !Cal.national d) := by show _ = _; unfold Cal.biz; rw [h6, m12, m1]; rfl
            go_wp2_with (go_at_call 13; refine (national_any d (by omega) (by omega) rb ro fb fo _ (B1.out.ld L.out)).mono ?_; rintro e w2 ⟨rfl, hb⟩)
            go_ret
            exact ⟨by rw [Z.out]; rfl, (B1.out.step hb).bel⟩
          · cases d3 : decide (Cal.day d ≤ 3)
            · have Z : Hid (Cal.biz d = !Cal.national d) := by show _ = _; unfold Cal.biz; rw [h6, m12, m1, d3]; rfl
              go_wp2_with (go_at_call 13; refine (national_any d (by omega) (by omega) rb ro fb fo _ (B1.out.ld L.out)).mono ?_; rintro e w2 ⟨rfl, hb⟩)
              go_ret
              exact ⟨by rw [Z.out]; rfl, (B1.out.step hb).bel⟩
            · have Z : Hid (Cal.biz d = false) := by show _ = _; unfold Cal.biz; rw [h6, m12, m1, d3]; rfl
              go_wp2
              go_ret
              exact ⟨by rw [Z.out]; rfl, B1.out.bel⟩
        · cases d31 : Cal.day d == 31
          · have m1 : (Cal.month d == 1) = false := by rw [eq_of_beq m12]; decide
            have Z : Hid (Cal.biz d = !Cal.national d) := by show _ = _; unfold Cal.biz; rw [h6, m12, d31, m1]; rfl
            go_wp2_with (go_at_call 13; refine (national_any d (by omega) (by omega) rb ro fb fo _ (B1.out.ld L.out)).mono ?_; rintro e w2 ⟨rfl, hb⟩)
            go_ret
            exact ⟨by rw [Z.out]; rfl, (B1.out.step hb).bel⟩
          · have Z : Hid (Cal.biz d = false) := by show _ = _; unfold Cal.biz; rw [h6, m12, d31]; rfl
            go_wp2
            go_ret
            exact ⟨by rw [Z.out]; rfl, B1.out.bel⟩
      · have Z : Hid (Cal.biz d = false) := by show _ = _; unfold Cal.biz; rw [h6]; rfl
        go_wp2
        go_ret
        exact ⟨by rw [Z.out]; rfl, B1.out.bel⟩
end Go.Proofs.YbulkbsqcDoor
