/-
  checkFace (function 5) and zzs3460asame (function 6): contracts; the plain arithmetic of '/' and '%'.
-/
import Derived.Test.YbulkbsqcRows
import Derived.WalkKit
import Derived.WalkSpells
import Derived.WideLaws
import Derived.RowKit3
namespace Go.Proofs.Ybulkbsqc
open Go.RowKit

/-- A Refusal's six cells, its error nil. -/
abbrev R6 (k a b c : Int) (t : ByteArray) : Array Value := #[.int .u8 k, .int .i64 a, .int .i64 b, .int .i64 c, .string t, .nilIface]

theorem same_self (k a b c : Int) (t : ByteArray) (w : World) :
    Calls Yba.prog 6 #[.agg (R6 k a b c t), .agg (R6 k a b c t)] w fun e w' => e = .returned (.bool true) ∧ w' = (w.alloc (.cells (R6 k a b c t) 26)).alloc (.cells (R6 k a b c t) 26) := by
  go_enter Yba.func6, Yba.ntmps6
  go_wp2
  go_ret
  exact ⟨rfl, rfl⟩

/-- '(f / m) * m == f' says just what 'f % m == 0' says (f above 0). -/
theorem quo_mul (f m : Int) (h0 : 0 < f) (h1 : f ≤ 9223372036854775807) : wrap64 (wrap64 (f / m) * m) = f ↔ f % m = 0 := by
  have et : f.tmod m = f % m := Int.tmod_eq_emod_of_nonneg (by omega)
  have ed : f.tdiv m = f / m := Int.tdiv_eq_ediv_of_nonneg (by omega)
  have e : m * (f / m) + f % m = f := Int.mul_ediv_add_emod f m
  have hr0 : 0 ≤ f % m := by rw [← et]; exact Int.tmod_nonneg m (by omega)
  have hrf : f % m ≤ f := by
    have hb : (f.tmod m).natAbs ≤ f.natAbs := by rw [Int.natAbs_tmod]; exact Nat.mod_le _ _
    rw [et] at hb
    omega
  have hq : wrap64 (f / m) = f / m := by
    have hb : (f.tdiv m).natAbs ≤ f.natAbs := by rw [Int.natAbs_tdiv]; exact Nat.div_le_self _ _
    rw [ed] at hb
    unfold wrap64; omega
  rw [hq]
  have hp : f / m * m = f - f % m := by rw [Int.mul_comm]; omega
  rw [hp]
  have hw : wrap64 (f - f % m) = f - f % m := by unfold wrap64; omega
  rw [hw]
  omega
theorem quo_mul' (f m : Int) (h0 : 0 < f) (h1 : f ≤ 9223372036854775807) : wrap64 (wrap64 (f.tdiv m) * m) = f ↔ f % m = 0 := by
  rw [Int.tdiv_eq_ediv_of_nonneg (by omega)]; exact quo_mul f m h0 h1
theorem quo_in (f m : Int) (h0 : 0 < f) : -f ≤ f / m ∧ f / m ≤ f := by
  have ed : f.tdiv m = f / m := Int.tdiv_eq_ediv_of_nonneg (by omega)
  have hb : (f.tdiv m).natAbs ≤ f.natAbs := by rw [Int.natAbs_tdiv]; exact Nat.div_le_self _ _
  rw [ed] at hb
  omega

/-- checkFace accepts: nothing is written. -/
theorem face_yes (f m : Int) (a : Addr) (w : World) (h0 : 0 < f) (hm : m ≠ 0) (hr : (f % m == 0) = true) :
    Calls Yba.prog 5 #[.int .i64 f, .int .i64 m, .pointer (some a)] w fun e w' => e = .returned (.bool true) ∧ w' = w := by
  have hr' : (f % m != 0) = false := by simpa [bne] using hr
  have hle : ¬ f ≤ 0 := by omega
  have hle' : decide (f ≤ 0) = false := by simpa using hle
  go_enter Yba.func5, Yba.ntmps5
  go_wp2
  go_ret
  exact ⟨rfl, rfl⟩

/-- checkFace refuses: the block that was laid last is written. -/
theorem face_no (f m k0 a0 b0 c0 : Int) (t0 : ByteArray) (w : World) (b : Nat) (hb : b = w.heap.size) (h : f ≤ 0 ∨ (m ≠ 0 ∧ (f % m != 0) = true)) :
    Calls Yba.prog 5 #[.int .i64 f, .int .i64 m, .pointer (some ⟨b, 0, none⟩)] (w.alloc (.cells (R6 k0 a0 b0 c0 t0) 26)) fun e w' => e = .returned (.bool false) ∧ w' = w.alloc (.cells (R6 6 f m 0 ⟨#[]⟩) 26) := by
  subst hb
  by_cases hf : f ≤ 0
  · have hf' : decide (f ≤ 0) = true := by simpa using hf
    go_enter Yba.func5, Yba.ntmps5
    go_wp2
    go_ret
    exact ⟨rfl, rfl⟩
  · obtain ⟨hm, hr⟩ : m ≠ 0 ∧ (f % m != 0) = true := by simpa [hf] using h
    have hf' : decide (f ≤ 0) = false := by simpa using hf
    clear h
    go_enter Yba.func5, Yba.ntmps5
    go_wp2
    go_ret
    exact ⟨rfl, rfl⟩
end Go.Proofs.Ybulkbsqc
