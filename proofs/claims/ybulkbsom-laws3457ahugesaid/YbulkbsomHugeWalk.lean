/-
  The walk of 'LawS3457AHuge' (function 4): whatever the slice, the position, the byte: true; nothing that was there is written.
-/
import Derived.Test.YbulkbsomReader
namespace Go.Proofs.Ybulkbsom
open Go.RowKit

theorem huge_walk (a0 : Option Addr) (len0 cap0 : Nat) (a1 a2 : Int) (a3 : Bool) (w : World) :
    Calls Yba.prog 4 #[.slice a0 len0 cap0, .int .i64 a1, .int .u8 a2, .bool a3] w fun e w' => e = .returned (.bool true) ∧ Below w.heap.size w w' := by
  by_cases hb : (1048576 : Int) < (len0 : Int)
  · go_enter Yba.func4, Yba.ntmps4
    go_wp2
    go_ret
    exact ⟨rfl, Below.refl _ _⟩
  by_cases hp : a1 < (len0 : Int)
  · by_cases hc : a2 = 0
    · subst hc
      go_enter Yba.func4, Yba.ntmps4
      go_wp2_with fail
      have hw : wrap64 ((len0 : Int) + 1) = (len0 : Int) + 1 := by unfold wrap64; omega
      refine (expect_yes _ len0 _ _ (next_out _ a0 len0 cap0 len0 _ (by go_simp) (by go_simp) (by omega)) (by go_simp) (by go_simp)).mono ?_
      rintro e w' ⟨rfl, n, rfl⟩
      go_wp2
      go_ret
      exact ⟨rfl, below_drewN ((Below.refl _ _).alloc (Nat.le_refl _) _) _⟩
    · have hc' : (a2 == 0) = false := by simpa using hc
      have hn : ((0 : Int) != a2) = true := by simpa using fun h => hc h.symm
      go_enter Yba.func4, Yba.ntmps4
      go_wp2_with fail
      refine (expect_no _ 0 a2 (.bool a3) _ hn (next_out _ a0 len0 cap0 len0 _ (by go_simp) (by go_simp) (by omega)) (by go_simp) (by go_simp)).mono ?_
      rintro e w' ⟨rfl, n, rfl⟩
      go_wp2
      go_ret
      exact ⟨rfl, below_drewN ((Below.refl _ _).alloc (Nat.le_refl _) _) _⟩
  · by_cases hc : a2 = 0
    · subst hc
      go_enter Yba.func4, Yba.ntmps4
      go_wp2_with fail
      refine (expect_yes _ a1 _ _ (next_out _ a0 len0 cap0 a1 _ (by go_simp) (by go_simp) (by omega)) (by go_simp) (by go_simp)).mono ?_
      rintro e w' ⟨rfl, n, rfl⟩
      go_wp2
      go_ret
      exact ⟨rfl, below_drewN ((Below.refl _ _).alloc (Nat.le_refl _) _) _⟩
    · have hc' : (a2 == 0) = false := by simpa using hc
      have hn : ((0 : Int) != a2) = true := by simpa using fun h => hc h.symm
      go_enter Yba.func4, Yba.ntmps4
      go_wp2_with fail
      refine (expect_no _ 0 a2 (.bool a3) _ hn (next_out _ a0 len0 cap0 a1 _ (by go_simp) (by go_simp) (by omega)) (by go_simp) (by go_simp)).mono ?_
      rintro e w' ⟨rfl, n, rfl⟩
      go_wp2
      go_ret
      exact ⟨rfl, below_drewN ((Below.refl _ _).alloc (Nat.le_refl _) _) _⟩
end Go.Proofs.Ybulkbsom
