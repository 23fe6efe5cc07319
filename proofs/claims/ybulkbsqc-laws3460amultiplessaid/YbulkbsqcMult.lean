/-
  The walk of 'LawS3460AMultiples' (function 4).
-/
import Derived.Test.YbulkbsqcFace
namespace Go.Proofs.Ybulkbsqc
open Go.RowKit

set_option maxHeartbeats 400000 in
/-- The minimum is 1. -/
theorem mult_one (a1 : Int) (lo1 : 0 ≤ a1) (hi1 : a1 ≤ 65535) (w : World) :
    Calls Yba.prog 4 #[.int .u32 0, .int .u16 a1] w fun e w' => e = .returned (.bool true) ∧ Grown w w' := by
  go_enter Yba.func4, Yba.ntmps4
  go_wp2_with fail
  refine (face_yes (a1 + 1) 1 _ _ (by omega) (by decide) (by simp)).mono ?_
  rintro e w' ⟨rfl, rfl⟩
  go_wp2_with fail
  refine (same_self 0 0 0 0 ⟨#[]⟩ _).mono ?_
  rintro e w' ⟨rfl, rfl⟩
  go_wp2
  go_ret
  exact ⟨rfl, by repeat (first | exact Grown.refl _ | apply Grown.drew | apply Grown.alloc)⟩

set_option maxHeartbeats 400000 in
/-- The minimum is above 1. -/
theorem mult_more (a0 a1 q : Int) (lo0 : 0 < a0) (hi0 : a0 ≤ 4294967295) (lo1 : 0 ≤ a1) (hi1 : a1 ≤ 65535) (p1 : 0 < q) (p2 : q ≤ 281474976710656) (hw : wrap64 ((a1 + 1) * (a0 + 1)) = q)
    (hr : (q % (a0 + 1) == 0) = true) (hr2 : ((q + 1) % (a0 + 1) != 0) = true) (w : World) :
    Calls Yba.prog 4 #[.int .u32 a0, .int .u16 a1] w fun e w' => e = .returned (.bool true) ∧ Grown w w' := by
  have H1 : Hid ((q % (a0 + 1) == 0) = true) := hr
  have H2 : Hid (((q + 1) % (a0 + 1) != 0) = true) := hr2
  clear hr hr2
  go_enter Yba.func4, Yba.ntmps4
  go_wp2_with fail
  refine (face_yes q (a0 + 1) _ _ p1 (by omega) H1).mono ?_
  rintro e w' ⟨rfl, rfl⟩
  go_wp2_with fail
  refine (same_self 0 0 0 0 ⟨#[]⟩ _).mono ?_
  rintro e w' ⟨rfl, rfl⟩
  go_wp2_with fail
  refine (face_no (q + 1) (a0 + 1) 0 0 0 0 ⟨#[]⟩ _ _ (by simp) (.inr ⟨by omega, H2⟩)).mono ?_
  rintro e w' ⟨rfl, rfl⟩
  go_wp2_with fail
  refine (same_self 6 (q + 1) (a0 + 1) 0 ⟨#[]⟩ _).mono ?_
  rintro e w' ⟨rfl, rfl⟩
  go_wp2
  go_ret
  exact ⟨rfl, by repeat (first | exact Grown.refl _ | apply Grown.drew | apply Grown.alloc)⟩
end Go.Proofs.Ybulkbsqc
