/-
  The walk of 'LawS3457AStep' (function 3): whatever the slice, the position, the byte and the marks: true; nothing that was there is written.
-/
import Derived.Test.YbulkbsomReader
namespace Go.Proofs.Ybulkbsom
open Go.RowKit

/-- The slice is too long: the law lets it by. -/
theorem step_big (a0 : Option Addr) (len cap : Nat) (p c : Int) (u bad : Bool) (depth : Int) (w : World) (hb : (1048576 : Int) < (len : Int)) :
    Calls Yba.prog 3 #[.slice a0 len cap, .int .u64 p, .int .u8 c, .bool u, .bool bad, .int .i64 depth] w fun e w' => e = .returned (.bool true) ∧ Below w.heap.size w w' := by
  go_enter Yba.func3, Yba.ntmps3
  go_wp2
  go_ret
  exact ⟨rfl, Below.refl _ _⟩

/-- The position lies at the end or past it. -/
theorem step_out_yes (a0 : Option Addr) (len cap : Nat) (p : Int) (pos : Nat) (u bad : Bool) (depth : Int) (w : World) (hb : (len : Int) ≤ 1048576)
    (hp0 : 0 ≤ p) (hpos : p % ((len : Int) + 2) = (pos : Int)) (hge : (len : Int) ≤ (pos : Int)) (hle : (pos : Int) ≤ (len : Int) + 1) :
    Calls Yba.prog 3 #[.slice a0 len cap, .int .u64 p, .int .u8 0, .bool u, .bool bad, .int .i64 depth] w fun e w' => e = .returned (.bool true) ∧ Below w.heap.size w w' := by
  have hw : wrap64 ((pos : Int) + 1) = (pos : Int) + 1 := by unfold wrap64; omega
  cases u
  all_goals
    go_enter Yba.func3, Yba.ntmps3
    go_wp2_with fail
    refine (expect_yes _ pos _ _ (next_out _ a0 len cap pos _ (by go_simp) (by go_simp) (by omega)) (by go_simp) (by go_simp)).mono ?_
    rintro e w' ⟨rfl, n, rfl⟩
    go_wp2
    go_ret
    exact ⟨rfl, below_drewN ((Below.refl _ _).alloc (Nat.le_refl _) _) _⟩

theorem step_out_no (a0 : Option Addr) (len cap : Nat) (p : Int) (pos : Nat) (c : Int) (u bad : Bool) (depth : Int) (w : World) (hb : (len : Int) ≤ 1048576) (hc : c ≠ 0)
    (hp0 : 0 ≤ p) (hpos : p % ((len : Int) + 2) = (pos : Int)) (hge : (len : Int) ≤ (pos : Int)) (hle : (pos : Int) ≤ (len : Int) + 1) :
    Calls Yba.prog 3 #[.slice a0 len cap, .int .u64 p, .int .u8 c, .bool u, .bool bad, .int .i64 depth] w fun e w' => e = .returned (.bool true) ∧ Below w.heap.size w w' := by
  have hn : ((0 : Int) != c) = true := by simpa using fun h => hc h.symm
  have hn' : ((0 : Int) == c) = false := by simpa using fun h => hc h.symm
  clear hc
  cases u
  all_goals
    go_enter Yba.func3, Yba.ntmps3
    go_wp2_with fail
    refine (expect_no _ 0 c (.bool bad) _ hn (next_out _ a0 len cap pos _ (by go_simp) (by go_simp) (by omega)) (by go_simp) (by go_simp)).mono ?_
    rintro e w' ⟨rfl, n, rfl⟩
    go_wp2
    go_ret
    exact ⟨rfl, below_drewN ((Below.refl _ _).alloc (Nat.le_refl _) _) _⟩

/-- The position lies inside, and the byte there is asked for (named by 'useAt', or met by chance). -/
theorem step_in_use (xb xo : Nat) (len cap : Nat) (p : Int) (pos : Nat) (c z : Int) (bad : Bool) (depth : Int) (w : World) (hb : (len : Int) ≤ 1048576)
    (hp0 : 0 ≤ p) (hpos : p % ((len : Int) + 2) = (pos : Int)) (hlt : (pos : Int) < (len : Int)) (hx : xb < w.heap.size) (hz : w.cell? ⟨xb, xo + pos, none⟩ = some (.int .u8 z)) :
    Calls Yba.prog 3 #[.slice (some ⟨xb, xo, none⟩) len cap, .int .u64 p, .int .u8 c, .bool true, .bool bad, .int .i64 depth] w fun e w' => e = .returned (.bool true) ∧ Below w.heap.size w w' := by
  have hw : wrap64 ((pos : Int) + 1) = (pos : Int) + 1 := by unfold wrap64; omega
  go_enter Yba.func3, Yba.ntmps3
  go_wp2_with fail
  refine (expect_yes _ pos _ _ (next_in _ xb xo len cap pos z _ (by go_simp) (by go_simp) (by omega) (by go_simp)) (by go_simp) (by go_simp)).mono ?_
  rintro e w' ⟨rfl, n, rfl⟩
  go_wp2
  go_ret
  exact ⟨rfl, below_drewN ((Below.refl _ _).alloc (Nat.le_refl _) _) _⟩

theorem step_in_yes (xb xo : Nat) (len cap : Nat) (p : Int) (pos : Nat) (z : Int) (bad : Bool) (depth : Int) (w : World) (hb : (len : Int) ≤ 1048576)
    (hp0 : 0 ≤ p) (hpos : p % ((len : Int) + 2) = (pos : Int)) (hlt : (pos : Int) < (len : Int)) (hx : xb < w.heap.size) (hz : w.cell? ⟨xb, xo + pos, none⟩ = some (.int .u8 z)) :
    Calls Yba.prog 3 #[.slice (some ⟨xb, xo, none⟩) len cap, .int .u64 p, .int .u8 z, .bool false, .bool bad, .int .i64 depth] w fun e w' => e = .returned (.bool true) ∧ Below w.heap.size w w' := by
  have hw : wrap64 ((pos : Int) + 1) = (pos : Int) + 1 := by unfold wrap64; omega
  go_enter Yba.func3, Yba.ntmps3
  go_wp2_with fail
  refine (expect_yes _ pos _ _ (next_in _ xb xo len cap pos z _ (by go_simp) (by go_simp) (by omega) (by go_simp)) (by go_simp) (by go_simp)).mono ?_
  rintro e w' ⟨rfl, n, rfl⟩
  go_wp2
  go_ret
  exact ⟨rfl, below_drewN ((Below.refl _ _).alloc (Nat.le_refl _) _) _⟩

theorem step_in_no (xb xo : Nat) (len cap : Nat) (p : Int) (pos : Nat) (c z : Int) (bad : Bool) (depth : Int) (w : World) (hb : (len : Int) ≤ 1048576) (hc : z ≠ c)
    (hp0 : 0 ≤ p) (hpos : p % ((len : Int) + 2) = (pos : Int)) (hlt : (pos : Int) < (len : Int)) (hx : xb < w.heap.size) (hz : w.cell? ⟨xb, xo + pos, none⟩ = some (.int .u8 z)) :
    Calls Yba.prog 3 #[.slice (some ⟨xb, xo, none⟩) len cap, .int .u64 p, .int .u8 c, .bool false, .bool bad, .int .i64 depth] w fun e w' => e = .returned (.bool true) ∧ Below w.heap.size w w' := by
  have hn : (z != c) = true := by simpa using hc
  have hn' : (z == c) = false := by simpa using hc
  clear hc
  go_enter Yba.func3, Yba.ntmps3
  go_wp2_with fail
  refine (expect_no _ z c (.bool bad) _ hn (next_in _ xb xo len cap pos z _ (by go_simp) (by go_simp) (by omega) (by go_simp)) (by go_simp) (by go_simp)).mono ?_
  rintro e w' ⟨rfl, n, rfl⟩
  go_wp2
  go_ret
  exact ⟨rfl, below_drewN ((Below.refl _ _).alloc (Nat.le_refl _) _) _⟩
end Go.Proofs.Ybulkbsom
