/-
  The small functions' contracts: Value's methods, cmp.Compare, strings.Compare, the held domain, the cap.
-/
import Derived.Test.YbulkbspoDoorRows
import Derived.Test.YbulkbspoDoorPlain
import Derived.WalkKit
import Derived.WalkSpells
import Derived.WalkLawsBesides
import Derived.Below
import Derived.WalkSmall
namespace Go.Proofs.YbulkbspoDoor
open Go.RowKit

/-- The draws stand outermost, as the walk has them. -/
theorem alloc_drewN (w : World) (n : Nat) (o : Obj) : (w.drewN n).alloc o = (w.alloc o).drewN n := Eq.trans rfl rfl
theorem setCell_drewN (w : World) (n : Nat) (a : Addr) (v : Value) : (w.drewN n).setCell a v = (w.setCell a v).drewN n := Eq.trans rfl rfl

/-- The kit lacks a float's store. -/
theorem run_store_float (P : Program) (w : World) (a : Addr) (m : Mode) (k : FloatKind) (n : Nat) : (store a (.float k n) m).run P w = stored P w a (.float k n) m := run_store P w a _ m rfl

/-- A Value's three cells. -/
abbrev V3 (k : Int) (n : Nat) (s : ByteArray) : Array Value := #[.int .u8 k, .float .f64 n, .string s]

theorem known_any (k : Int) (n : Nat) (s : ByteArray) (w : World) :
    Calls Ybad.prog 18 #[.agg (V3 k n s)] w fun e w' => e = .returned (.bool (k != 0)) ∧ w' = w.alloc (.cells (V3 k n s) 28) := by
  go_enter Ybad.func18, Ybad.ntmps18
  go_wp2
  go_ret
  exact ⟨rfl, rfl⟩
theorem isString_any (k : Int) (n : Nat) (s : ByteArray) (w : World) :
    Calls Ybad.prog 24 #[.agg (V3 k n s)] w fun e w' => e = .returned (.bool (k == 2)) ∧ w' = w.alloc (.cells (V3 k n s) 28) := by
  go_enter Ybad.func24, Ybad.ntmps24
  go_wp2
  go_ret
  exact ⟨rfl, rfl⟩
theorem text_any (k : Int) (n : Nat) (s : ByteArray) (w : World) :
    Calls Ybad.prog 25 #[.agg (V3 k n s)] w fun e w' => e = .returned (.string s) ∧ w' = w.alloc (.cells (V3 k n s) 28) := by
  go_enter Ybad.func25, Ybad.ntmps25
  go_wp2
  go_ret
  exact ⟨rfl, rfl⟩
theorem number_any (k : Int) (n : Nat) (s : ByteArray) (w : World) :
    Calls Ybad.prog 26 #[.agg (V3 k n s)] w fun e w' => e = .returned (.float .f64 n) ∧ w' = w.alloc (.cells (V3 k n s) 28) := by
  go_enter Ybad.func26, Ybad.ntmps26
  go_wp2
  go_ret
  exact ⟨rfl, rfl⟩

/-- cmp.Compare at float64. -/
def cmpF (x y : Nat) : Int :=
  if nanB x then (if nanB y then 0 else -1) else if nanB y then 1 else if FloatKind.f64.format.order x y = some .lt then -1 else if FloatKind.f64.format.order x y = some .gt then 1 else 0

theorem nan_neq (x : Nat) : (FloatKind.f64.format.order x x != some .eq) = nanB x := by
  simp only [bne, order_self_iff]; cases nanB x <;> rfl

theorem compareF_any (x y : Nat) (w : World) :
    Calls Ybad.prog 21 #[.float .f64 x, .float .f64 y] w fun e w' => e = .returned (.int .i64 (cmpF x y)) ∧ w' = w := by
  have hx := nan_neq x
  have hy := nan_neq y
  unfold cmpF
  cases h1 : nanB x <;> cases h2 : nanB y
  · rw [h1] at hx; rw [h2] at hy
    by_cases h3 : FloatKind.f64.format.order x y = some .lt
    · go_enter Ybad.func21, Ybad.ntmps21
      go_wp2
      go_ret
      exact ⟨rfl, rfl⟩
    · by_cases h4 : FloatKind.f64.format.order x y = some .gt
      · go_enter Ybad.func21, Ybad.ntmps21
        go_wp2
        go_ret
        exact ⟨rfl, rfl⟩
      · have h3' : (FloatKind.f64.format.order x y == some .lt) = false := by simpa using h3
        have h4' : (FloatKind.f64.format.order x y == some .gt) = false := by simpa using h4
        go_enter Ybad.func21, Ybad.ntmps21
        go_wp2
        go_ret
        exact ⟨rfl, rfl⟩
  all_goals
    rw [h1] at hx; rw [h2] at hy
    go_enter Ybad.func21, Ybad.ntmps21
    go_wp2
    go_ret
    exact ⟨rfl, rfl⟩

/-- strings.Compare. -/
def cmpS (a b : ByteArray) : Int := Extern.BytealgCompare.cmp a b
theorem run_cmpstring (a b : ByteArray) (w : World) : (callFunc 29 #[.string a, .string b]).run Ybad.prog w = .ok (.value (.int .i64 (cmpS a b))) w := by kernel_rfl
theorem compareS_any (a b : ByteArray) (w : World) :
    Calls Ybad.prog 20 #[.string a, .string b] w fun e w' => e = .returned (.int .i64 (cmpS a b)) ∧ w' = w := by
  have hr := run_cmpstring a b w
  go_enter Ybad.func20, Ybad.ntmps20
  go_wp2
  go_ret
  exact ⟨rfl, rfl⟩

/-- heldDomain. -/
def HeldR (ndv dom rows d : Nat) : Prop := ∃ m, MinR dom rows m ∧ MaxR ndv m d
theorem held_any (ndv dom rows : Nat) (w : World) :
    Calls Ybad.prog 23 #[.float .f64 ndv, .float .f64 dom, .float .f64 rows] w fun e w' => ∃ d n, e = .returned (.float .f64 d) ∧ w' = w.drewN n ∧ HeldR ndv dom rows d := by
  obtain ⟨m, n1, hr1, hm⟩ := run_min (P := Ybad.prog) #[22, 22] 22 dom rows w
  obtain ⟨d, n2, hr2, hd⟩ := run_max (P := Ybad.prog) #[22, 22] 22 ndv m (w.drewN n1)
  go_enter Ybad.func23, Ybad.ntmps23
  go_wp2
  go_ret
  exact ⟨d, _, rfl, rfl, m, hm, hd⟩
end Go.Proofs.YbulkbspoDoor
