/-
  dateFor in the Act's years; the second law's walk.
-/
import Derived.Test.YbulkbsqcDoorCheck
namespace Go.Proofs.YbulkbsqcDoor
open Go.RowKit

set_option maxHeartbeats 1000000 in
theorem dateFor_any (y k : Int) (h0 : 1948 ≤ y) (h1 : y ≤ 2107) (k0 : 1 ≤ k) (k1 : k ≤ 366) (w : World) :
    Calls Ybad.prog 6 #[.int .i64 y, .int .i64 1, .int .i64 k] w fun e w' => ∃ x, e = .returned (.agg #[.int .i64 x]) ∧ -10000000 ≤ x ∧ x ≤ 10000000 ∧ Below w.heap.size w w' := by
  obtain ⟨E, hE⟩ : ∃ E, (y - 1) / 400 = E := ⟨_, rfl⟩
  have E0 : 4 ≤ E := by omega
  have E1 : E ≤ 5 := by omega
  have o0 : 0 ≤ y - 1 - E * 400 := by omega
  have o1 : y - 1 - E * 400 ≤ 399 := by omega
  obtain ⟨l0, l1⟩ := Cal.dby_in (y - 1 - E * 400) o0 (by omega)
  have y1 : decide (y - 1 < 0) = false := by simp; omega
  go_enter Ybad.func6, Ybad.ntmps6
  go_wp2_with (go_at_call 9; refine (dby_any _ (by omega) (by omega) _).mono ?_; rintro e w1 ⟨rfl, rfl⟩)
  exact bodyPost_ret (v := .agg #[.int .i64 (E * 146097 + (Cal.dby (y - 1 - E * 400) + (306 + k - 1)) - 719468)]) (by simp [results, Ybad.results6, go_sem]) rfl ⟨_, rfl, by omega, by omega, (Below.refl _ _).alloc (Nat.le_refl _) _⟩

/-- The law in the Act's years. -/
theorem law4_any (y k : Int) (h0 : 0 ≤ y) (h1 : y ≤ 255) (k0 : 0 ≤ k) (k1 : k ≤ 65535) (rb ro fb fo : Nat) (w : World) (ld : LD rb ro fb fo w) :
    Calls Ybad.prog 4 #[.int .u8 y, .int .u16 k] w fun e w' => e = .returned (.bool true) ∧ Below w.heap.size w w' := by
  have L : Hid (LD rb ro fb fo w) := ld
  clear ld
  have F : Hid ((10000000 : Int) ≤ Cal.far) := by show _ ≤ _; unfold Cal.far; omega
  go_enter Ybad.func4, Ybad.ntmps4
  go_wp2_with (first
    | (go_at_call 6; refine (dateFor_any _ _ (by omega) (by omega) (by omega) (by omega) _).mono ?_; rintro e w1 ⟨x, rfl, x0, x1, hb⟩; have HB : Hid (Below w.heap.size w w1) := hb; clear hb)
    | (go_at_call 5; refine (check_any _ (by omega) (by have := F.out; omega) rb ro fb fo _ ((L.out.below (Nat.le_refl _) HB.out).alloc _)).mono ?_; rintro e w2 ⟨rfl, hb2⟩))
  go_ret
  exact ⟨rfl, (HB.out.alloc HB.out.size _).trans (hb2.mono (by rw [sz_alloc]; have := HB.out.size; omega))⟩
end Go.Proofs.YbulkbsqcDoor
