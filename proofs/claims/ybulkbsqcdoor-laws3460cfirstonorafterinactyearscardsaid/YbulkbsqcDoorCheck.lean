/-
  zzs3460ccheck.
-/
import Derived.Test.YbulkbsqcDoorNext
namespace Go.Proofs.YbulkbsqcDoor
open Go.RowKit

structure Ck (w : World) (d r : Int) (g : Nat) (w' : World) : Prop where
  bel : Below w.heap.size w w'
  cd : w'.cell? ⟨w.heap.size, 0, none⟩ = some (.int .i64 d)
  cr : w'.cell? ⟨g, 0, none⟩ = some (.int .i64 r)
  lb : w.heap.size < w'.heap.size
  lg : g < w'.heap.size
theorem Ck.step {w : World} {d r : Int} {g : Nat} {w1 w2 : World} (h : Ck w d r g w1) (k : Below w1.heap.size w1 w2) : Ck w d r g w2 :=
  ⟨h.bel.trans (k.mono h.bel.size), (k.cell (p := ⟨w.heap.size, 0, none⟩) h.lb).trans h.cd, (k.cell (p := ⟨g, 0, none⟩) h.lg).trans h.cr, Nat.lt_of_lt_of_le h.lb k.size, Nat.lt_of_lt_of_le h.lg k.size⟩
theorem Ck.ld {rb ro fb fo : Nat} {w : World} {d r : Int} {g : Nat} {w1 : World} (h : Ck w d r g w1) (l : LD rb ro fb fo w) : LD rb ro fb fo w1 := l.below (Nat.le_refl _) h.bel
theorem Ck.start {w : World} {d r : Int} {w1 : World} (h : Bx w d w1) : Ck w d r w1.heap.size (w1.alloc (.cells #[.int .i64 r] 24)) :=
  ⟨(h.alloc' _).bel, (h.alloc' _).cell, by rw [World.cell?_alloc_at _ _ _ _ rfl]; rfl, (h.alloc' _).lt, by rw [sz_alloc]; omega⟩
/-- A weekday count of the law's own. -/
theorem wday_own (r : Int) : (r.tmod 7 + 7 + 4) % 7 = Cal.wday r := by
  unfold Cal.wday
  by_cases h : 0 ≤ r
  · rw [Int.tmod_eq_emod_of_nonneg h]; omega
  · rw [tmod_of_neg (by omega)]; omega
theorem tmod7_in (r : Int) : -7 < r.tmod 7 ∧ r.tmod 7 < 7 := by
  by_cases h : 0 ≤ r
  · rw [Int.tmod_eq_emod_of_nonneg h]; omega
  · rw [tmod_of_neg (by omega)]; omega
theorem biz_week {r : Int} (h : Cal.biz r = true) : (Cal.wday r == 0) = false ∧ (Cal.wday r == 6) = false := by
  unfold Cal.biz at h
  cases h0 : Cal.wday r == 0 <;> cases h6 : Cal.wday r == 6 <;> simp [h0, h6] at h ⊢

set_option maxHeartbeats 1000000 in
theorem check_any (d : Int) (hd : -2999999998 ≤ d) (hd' : d ≤ Cal.far) (rb ro fb fo : Nat) (w : World) (ld : LD rb ro fb fo w) :
    Calls Ybad.prog 5 #[.agg #[.int .i64 d]] w fun e w' => e = .returned (.bool true) ∧ Below w.heap.size w w' := by
  have L : Hid (LD rb ro fb fo w) := ld
  clear ld
  have F : Hid (Cal.far = 2147483757) := rfl
  have B0 : Hid (Bx w d (w.alloc (.cells #[.int .i64 d] 24))) := Bx.start w d
  go_enter Ybad.func5, Ybad.ntmps5
  go_upto_region 1 with fail
  go_cut [3] from 6 to 7 (fun t wx => ∃ r g, t = .pointer (some ⟨g, 0, none⟩) ∧ First d r ∧ Ck w d r g wx)
  case first =>
    go_wp2_with (go_at_call 7; refine (next_any d hd hd' rb ro fb fo _ (B0.out.ld L.out)).mono ?_; rintro e w1 ⟨r, rfl, hf, hb⟩; have B1 : Hid (Bx w d w1) := B0.out.step hb; have HF : Hid (First d r) := hf; clear hb hf)
    go_meet
    case rel => exact ⟨r, _, rfl, HF.out, Ck.start B1.out⟩
  case rest =>
    obtain ⟨r, g, rfl, hf, hk⟩ := hcut
    have K1 : Hid (Ck w d r g wc) := hk
    have HF : Hid (First d r) := hf
    clear hf hk B0
    have r0 : d ≤ r := HF.out.ge
    have r1 : r ≤ 2147483757 := by have := HF.out.le; have := F.out; omega
    have hb := HF.out.biz
    have c1 := K1.out.cd
    have c2 := K1.out.cr
    have rd : decide (r < d) = false := by simp; omega
    obtain ⟨t0, t1⟩ := tmod7_in r
    have hw := wday_own r
    obtain ⟨w0, w6⟩ := biz_week hb
    go_upto_region 9 with (go_at_call 8; refine (biz_any r (by omega) (by omega) rb ro fb fo _ (K1.out.ld L.out)).mono ?_; rintro e w1 ⟨rfl, hb1⟩; have K2 : Hid (Ck w d r g w1) := K1.out.step hb1; have c3 := K2.out.cd; have c4 := K2.out.cr; clear hb1)
    clear c1 c2 hw t0 t1 w0 w6 rd hb
    go_wp2
    go_loopw [5] (fun t wr => ∃ e, t = .int .i64 e ∧ d ≤ e ∧ e ≤ r ∧ Ck w d r g wr) (fun t _ => (r - intOf t).toNat)
    case atStart => exact ⟨d, rfl, by omega, r0, K2.out⟩
    case round =>
      obtain ⟨e, rfl, e0, e1, hk⟩ := hrel
      have K3 : Hid (Ck w d r g wr) := hk
      clear hk
      have c5 := K3.out.cr
      by_cases he : e < r
      · have hn := HF.out.no e e0 he
        go_wp2_with (go_at_call 8; refine (biz_any e (by omega) (by omega) rb ro fb fo _ (K3.out.ld L.out)).mono ?_; rintro e' w1 ⟨rfl, hb1⟩; have K4 : Hid (Ck w d r g w1) := K3.out.step hb1; clear hb1)
        go_roundw
        case rel => exact ⟨e + 1, rfl, by omega, by omega, K4.out⟩
        case measure => simp [intOf]; omega
      · have he' : decide (e < r) = false := by simpa using he
        go_wp2
        go_ret
        exact ⟨rfl, K3.out.bel⟩

/-- The law over an int32 of days. -/
theorem law3_any (n : Int) (h0 : -2147483648 ≤ n) (h1 : n ≤ 2147483647) (rb ro fb fo : Nat) (w : World) (ld : LD rb ro fb fo w) :
    Calls Ybad.prog 3 #[.int .i32 n] w fun e w' => e = .returned (.bool true) ∧ Below w.heap.size w w' := by
  have L : Hid (LD rb ro fb fo w) := ld
  clear ld
  have F : n ≤ Cal.far := by unfold Cal.far; omega
  go_enter Ybad.func3, Ybad.ntmps3
  go_wp2_with (go_at_call 5; refine (check_any n (by omega) F rb ro fb fo _ L.out).mono ?_; rintro e w1 ⟨rfl, hb⟩)
  go_ret
  exact ⟨rfl, hb⟩
end Go.Proofs.YbulkbsqcDoor
