/-
  The contracts of '(*jsonReader).next' (function 6) and '(*jsonReader).expect' (function 5).
-/
import Derived.Test.YbulkbsomRows
import Derived.WalkKit
import Derived.WalkSpells
import Derived.RegionTactic
import Derived.Below
import Derived.WalkSmall
namespace Go.Proofs.Ybulkbsom
open Go.RowKit

/-- 'next' inside the data. -/
theorem next_in (b : Nat) (xb xo : Nat) (len cap : Nat) (pos : Nat) (z : Int) (w : World)
    (c0 : w.cell? ⟨b, 0, none⟩ = some (.slice (some ⟨xb, xo, none⟩) len cap)) (c1 : w.cell? ⟨b, 1, none⟩ = some (.int .i64 pos))
    (hlt : pos < len) (hz : w.cell? ⟨xb, xo + pos, none⟩ = some (.int .u8 z)) :
    Calls Yba.prog 6 #[.pointer (some ⟨b, 0, none⟩)] w fun e w' => e = .returned (.int .u8 z) ∧ ∃ n, w' = w.drewN n := by
  have hlt' : (pos : Int) < (len : Int) := by omega
  go_enter Yba.func6, Yba.ntmps6
  go_wp2
  go_region
  all_goals go_wp2
  all_goals go_region
  all_goals go_wp2
  all_goals go_ret
  all_goals exact ⟨rfl, 2, rfl⟩

theorem next_out (b : Nat) (a : Option Addr) (len cap : Nat) (pos : Int) (w : World)
    (c0 : w.cell? ⟨b, 0, none⟩ = some (.slice a len cap)) (c1 : w.cell? ⟨b, 1, none⟩ = some (.int .i64 pos))
    (hge : ¬ pos < (len : Int)) :
    Calls Yba.prog 6 #[.pointer (some ⟨b, 0, none⟩)] w fun e w' => e = .returned (.int .u8 0) ∧ ∃ n, w' = w.drewN n := by
  go_enter Yba.func6, Yba.ntmps6
  go_wp2
  go_region
  all_goals go_wp2
  all_goals go_ret
  all_goals exact ⟨rfl, 1, rfl⟩

/-- 'expect': the byte is there: 'pos' goes one on. -/
theorem expect_yes (b : Nat) (pos : Int) (z : Int) (w : World)
    (hn : Hid (Calls Yba.prog 6 #[.pointer (some ⟨b, 0, none⟩)] w fun e w' => e = .returned (.int .u8 z) ∧ ∃ n, w' = w.drewN n))
    (c1 : w.cell? ⟨b, 1, none⟩ = some (.int .i64 pos)) (f1 : w.frozen? ⟨b, 1, none⟩ = false) :
    Calls Yba.prog 5 #[.pointer (some ⟨b, 0, none⟩), .int .u8 z] w fun e w' => e = .returned (.bool true) ∧ ∃ n, w' = (w.setCell ⟨b, 1, none⟩ (.int .i64 (wrap64 (pos + 1)))).drewN n := by
  go_enter Yba.func5, Yba.ntmps5
  go_wp2_with (go_at_call 6; refine hn.out.mono ?_; rintro e w' ⟨rfl, n, rfl⟩)
  go_ret
  exact ⟨rfl, _, rfl⟩

/-- 'expect': another byte is there: 'bad' is set. -/
theorem expect_no (b : Nat) (z c : Int) (v : Value) (w : World) (hne : (z != c) = true)
    (hn : Hid (Calls Yba.prog 6 #[.pointer (some ⟨b, 0, none⟩)] w fun e w' => e = .returned (.int .u8 z) ∧ ∃ n, w' = w.drewN n))
    (c3 : w.cell? ⟨b, 3, none⟩ = some v) (f3 : w.frozen? ⟨b, 3, none⟩ = false) :
    Calls Yba.prog 5 #[.pointer (some ⟨b, 0, none⟩), .int .u8 c] w fun e w' => e = .returned (.bool false) ∧ ∃ n, w' = (w.setCell ⟨b, 3, none⟩ (.bool true)).drewN n := by
  go_enter Yba.func5, Yba.ntmps5
  go_wp2_with (go_at_call 6; refine hn.out.mono ?_; rintro e w' ⟨rfl, n, rfl⟩)
  go_ret
  exact ⟨rfl, _, rfl⟩
end Go.Proofs.Ybulkbsom
