/-
  PLAIN: floats of 64 bits by their words; 'alike': the same word, or two NaNs. No Go text in sight.
-/
import Derived.Laws.FloatArith
import Derived.WalkKit
import Derived.Deep.Draws
namespace Go.Proofs.YbulkbspoDoor
open Go

/-- How two words stand to each other ('none': one is a NaN). -/
def nanB (x : Nat) : Bool := (FloatKind.f64.format.read x).isNaN
/-- The same word, or two NaNs. -/
def Eqv (x y : Nat) : Prop := x = y ∨ (nanB x = true ∧ nanB y = true)

theorem Eqv.refl (x : Nat) : Eqv x x := .inl rfl

theorem datum_order_nan_left {d e : Ieee.Datum} (h : d.isNaN = true) : d.order e = none := by
  cases d <;> simp_all [Ieee.Datum.isNaN, Ieee.Datum.order]
theorem datum_order_nan_right {d e : Ieee.Datum} (h : e.isNaN = true) : d.order e = none := by
  cases e <;> cases d <;> simp_all [Ieee.Datum.isNaN, Ieee.Datum.order]

theorem order_nan_left {x y : Nat} (h : nanB x = true) : FloatKind.f64.format.order x y = none := datum_order_nan_left h
theorem order_nan_right {x y : Nat} (h : nanB y = true) : FloatKind.f64.format.order x y = none := datum_order_nan_right h

theorem datum_order_self {d : Ieee.Datum} (h : d.isNaN = false) : d.order d = some .eq := by
  cases d <;> simp_all [Ieee.Datum.isNaN, Ieee.Datum.order]

theorem order_self {x : Nat} (h : nanB x = false) : FloatKind.f64.format.order x x = some .eq := datum_order_self h

theorem order_self_iff (x : Nat) : (FloatKind.f64.format.order x x == some .eq) = !nanB x := by
  cases h : nanB x
  · rw [order_self h]; rfl
  · rw [order_nan_left h]; rfl

theorem cmp_swap_int (a b : Int) : compare b a = (compare a b).swap := by
  simp only [compare, compareOfLessAndEq]
  rcases Int.lt_trichotomy a b with h | h | h
  · rw [if_neg (by omega), if_neg (by omega), if_pos h]; rfl
  · subst h; simp
  · rw [if_pos h, if_neg (by omega), if_neg (by omega)]; rfl
theorem cmp_swap_nat (a b : Nat) : compare b a = (compare a b).swap := by
  simp only [compare, compareOfLessAndEq]
  rcases Nat.lt_trichotomy a b with h | h | h
  · rw [if_neg (by omega), if_neg (by omega), if_pos h]; rfl
  · subst h; simp
  · rw [if_pos h, if_neg (by omega), if_neg (by omega)]; rfl

theorem datum_order_swap (d e : Ieee.Datum) : e.order d = (d.order e).map Ordering.swap := by
  cases d <;> cases e <;> simp only [Ieee.Datum.order, Option.map_none, Option.map_some]
  · rename_i s m i t n j
    rw [Int.min_comm j i, cmp_swap_int]
  · rename_i t
    cases t <;> rfl
  · rename_i t _ _ _
    cases t <;> rfl
  · rw [cmp_swap_nat]

theorem order_swap (x y : Nat) : FloatKind.f64.format.order y x = (FloatKind.f64.format.order x y).map Ordering.swap := datum_order_swap _ _

/-- Go's own comparison of the law: 'a == b || (a != a && b != b)'. -/
def feq (x y : Nat) : Bool := FloatKind.f64.format.order x y == some .eq || (FloatKind.f64.format.order x x != some .eq && FloatKind.f64.format.order y y != some .eq)

theorem feq_of_eqv {x y : Nat} (h : Eqv x y) : feq x y = true := by
  unfold feq
  rcases h with rfl | ⟨h1, h2⟩
  · simp only [bne]; cases FloatKind.f64.format.order x x == some .eq <;> rfl
  · rw [order_nan_left (y := x) h1, order_nan_left (y := y) h2]
    simp

theorem order_congr {x x' y y' : Nat} (h : Eqv x x') (k : Eqv y y') : FloatKind.f64.format.order x y = FloatKind.f64.format.order x' y' := by
  rcases h with rfl | ⟨h1, h2⟩
  · rcases k with rfl | ⟨k1, k2⟩
    · rfl
    · rw [order_nan_right k1, order_nan_right k2]
  · rw [order_nan_left h1, order_nan_left h2]

/-! ### The operations, as relations: the word that Go fixes, or whatever NaN -/
def MulR (x y r : Nat) : Prop := FloatKind.f64.format.mul x y = some r ∨ (FloatKind.f64.format.mul x y = none ∧ nanB r = true)
def DivR (x y r : Nat) : Prop := FloatKind.f64.format.div x y = some r ∨ (FloatKind.f64.format.div x y = none ∧ nanB r = true)
def MinR (x y r : Nat) : Prop :=
  match FloatKind.f64.format.order x y with
  | none => nanB r = true
  | some .lt => r = x
  | some .gt => r = y
  | some .eq => r = if (FloatKind.f64.decode x).neg then x else y
def MaxR (x y r : Nat) : Prop :=
  match FloatKind.f64.format.order x y with
  | none => nanB r = true
  | some .lt => r = y
  | some .gt => r = x
  | some .eq => r = if (FloatKind.f64.decode x).neg then y else x

theorem product_nan_left {d e : Ieee.Datum} (h : d.isNaN = true) : d.product e = none := by
  cases d <;> simp_all [Ieee.Datum.isNaN, Ieee.Datum.product]
theorem product_nan_right {d e : Ieee.Datum} (h : e.isNaN = true) : d.product e = none := by
  cases e <;> cases d <;> simp_all [Ieee.Datum.isNaN, Ieee.Datum.product]
theorem quotient_nan_left {n : Nat} {d e : Ieee.Datum} (h : d.isNaN = true) : d.quotient n e = none := by
  cases d <;> simp_all [Ieee.Datum.isNaN, Ieee.Datum.quotient]
theorem quotient_nan_right {n : Nat} {d e : Ieee.Datum} (h : e.isNaN = true) : d.quotient n e = none := by
  cases e <;> cases d <;> simp_all [Ieee.Datum.isNaN, Ieee.Datum.quotient]

theorem mul_congr {x x' y y' : Nat} (h : Eqv x x') (k : Eqv y y') : FloatKind.f64.format.mul x y = FloatKind.f64.format.mul x' y' := by
  unfold Ieee.Format.mul
  rcases h with rfl | ⟨h1, h2⟩
  · rcases k with rfl | ⟨k1, k2⟩
    · rfl
    · rw [product_nan_right k1, product_nan_right k2]
  · rw [product_nan_left h1, product_nan_left h2]
theorem div_congr {x x' y y' : Nat} (h : Eqv x x') (k : Eqv y y') : FloatKind.f64.format.div x y = FloatKind.f64.format.div x' y' := by
  unfold Ieee.Format.div
  rcases h with rfl | ⟨h1, h2⟩
  · rcases k with rfl | ⟨k1, k2⟩
    · rfl
    · rw [quotient_nan_right k1, quotient_nan_right k2]
  · rw [quotient_nan_left h1, quotient_nan_left h2]

theorem MulR.eqv {x x' y y' r r' : Nat} (a : MulR x y r) (b : MulR x' y' r') (h : Eqv x x') (k : Eqv y y') : Eqv r r' := by
  have e := mul_congr h k
  unfold MulR at a b
  rw [e] at a
  rcases a with a | ⟨a, a'⟩ <;> rcases b with b | ⟨b, b'⟩
  · left; simpa using a.symm.trans b
  · rw [a] at b; cases b
  · rw [a] at b; cases b
  · exact .inr ⟨a', b'⟩
theorem DivR.eqv {x x' y y' r r' : Nat} (a : DivR x y r) (b : DivR x' y' r') (h : Eqv x x') (k : Eqv y y') : Eqv r r' := by
  have e := div_congr h k
  unfold DivR at a b
  rw [e] at a
  rcases a with a | ⟨a, a'⟩ <;> rcases b with b | ⟨b, b'⟩
  · left; simpa using a.symm.trans b
  · rw [a] at b; cases b
  · rw [a] at b; cases b
  · exact .inr ⟨a', b'⟩

theorem MinR.eqv {x x' y y' r r' : Nat} (a : MinR x y r) (b : MinR x' y' r') (h : Eqv x x') (k : Eqv y y') : Eqv r r' := by
  unfold MinR at a b
  rw [order_congr h k] at a
  cases ho : FloatKind.f64.format.order x' y' with
  | none => rw [ho] at a b; exact .inr ⟨a, b⟩
  | some o =>
    have hx : nanB x' = false := by
      cases hn : nanB x' with
      | false => rfl
      | true => rw [order_nan_left hn] at ho; cases ho
    have hy : nanB y' = false := by
      cases hn : nanB y' with
      | false => rfl
      | true => rw [order_nan_right hn] at ho; cases ho
    obtain rfl : x = x' := by rcases h with h | ⟨_, h⟩; exact h; simp [hx] at h
    obtain rfl : y = y' := by rcases k with h | ⟨_, h⟩; exact h; simp [hy] at h
    rw [ho] at a b
    cases o <;> simp only at a b <;> exact .inl (a.trans b.symm)
theorem MaxR.eqv {x x' y y' r r' : Nat} (a : MaxR x y r) (b : MaxR x' y' r') (h : Eqv x x') (k : Eqv y y') : Eqv r r' := by
  unfold MaxR at a b
  rw [order_congr h k] at a
  cases ho : FloatKind.f64.format.order x' y' with
  | none => rw [ho] at a b; exact .inr ⟨a, b⟩
  | some o =>
    have hx : nanB x' = false := by
      cases hn : nanB x' with
      | false => rfl
      | true => rw [order_nan_left hn] at ho; cases ho
    have hy : nanB y' = false := by
      cases hn : nanB y' with
      | false => rfl
      | true => rw [order_nan_right hn] at ho; cases ho
    obtain rfl : x = x' := by rcases h with h | ⟨_, h⟩; exact h; simp [hx] at h
    obtain rfl : y = y' := by rcases k with h | ⟨_, h⟩; exact h; simp [hy] at h
    rw [ho] at a b
    cases o <;> simp only at a b <;> exact .inl (a.trans b.symm)

/-! ### What a NaN that is drawn is -/
theorem nan_drawn (t : Nat) : nanB ((t % 2) * 2 ^ 63 + 0x7ff0000000000000 + 1 + (t / 2) % (2 ^ 52 - 1)) = true := by
  have h1 : t % 2 = 0 ∨ t % 2 = 1 := by omega
  have hs : FloatKind.f64.format.signWeight = 9223372036854775808 := by rfl
  have hb : FloatKind.f64.format.binade = 4503599627370496 := by rfl
  have hi : FloatKind.f64.format.infRung = 9218868437227405312 := by rfl
  unfold nanB Ieee.Format.read
  simp only [hs, hb, hi]
  have h2 : (t / 2) % (2 ^ 52 - 1) < 4503599627370495 := by omega
  have h3 : ((t % 2) * 2 ^ 63 + 0x7ff0000000000000 + 1 + (t / 2) % (2 ^ 52 - 1)) % 9223372036854775808 = 9218868437227405312 + 1 + (t / 2) % (2 ^ 52 - 1) := by omega
  rw [h3, if_neg (by omega), if_neg (by omega), if_neg (by omega)]
  rfl

theorem nan_cut_bits (x y t : Nat) : nanB ((Question.nanBits .f64 x y).cut t) = true := by unfold Question.cut; exact nan_drawn t
theorem nan_cut_minmax (b : Bool) (x y t : Nat) : nanB ((Question.nanMinMax .f64 b x y).cut t) = true := by unfold Question.cut; exact nan_drawn t
section
variable {P : Program}
theorem run_mul (t : TypeId) (x y : Nat) (w : World) : ∃ r n, (binOp .mul t (.float .f64 x) (.float .f64 y)).run P w = .ok (.float .f64 r) (w.drewN n) ∧ MulR x y r := by
  cases h : FloatKind.f64.format.mul x y with
  | some r => exact ⟨r, 0, by simp [binOp, Op.floatArith, h]; rfl, .inl h⟩
  | none =>
    exact ⟨(Question.nanBits .f64 x y).cut (w.tape w.drawn (.nanBits .f64 x y)), 1, by simp [binOp, Op.floatArith, h, Question.forced]; rfl, .inr ⟨h, nan_cut_bits _ _ _⟩⟩
theorem run_div (t : TypeId) (x y : Nat) (w : World) : ∃ r n, (binOp .quo t (.float .f64 x) (.float .f64 y)).run P w = .ok (.float .f64 r) (w.drewN n) ∧ DivR x y r := by
  cases h : FloatKind.f64.format.div x y with
  | some r => exact ⟨r, 0, by simp [binOp, Op.floatArith, h]; rfl, .inl h⟩
  | none =>
    exact ⟨(Question.nanBits .f64 x y).cut (w.tape w.drawn (.nanBits .f64 x y)), 1, by simp [binOp, Op.floatArith, h, Question.forced]; rfl, .inr ⟨h, nan_cut_bits _ _ _⟩⟩
theorem run_sub (t : TypeId) (x y : Nat) (w : World) : ∃ r n, (binOp .sub t (.float .f64 x) (.float .f64 y)).run P w = .ok (.float .f64 r) (w.drewN n) := by
  cases h : FloatKind.f64.format.sub x y with
  | some r => exact ⟨r, 0, by simp [binOp, Op.floatArith, h]; rfl⟩
  | none =>
    exact ⟨(Question.nanBits .f64 x y).cut (w.tape w.drawn (.nanBits .f64 x y)), 1, by simp [binOp, Op.floatArith, h, Question.forced]; rfl⟩
theorem run_min (ts : Array TypeId) (t : TypeId) (x y : Nat) (w : World) : ∃ r n, (Builtin.min_ ts t #[.float .f64 x, .float .f64 y]).run P w = .ok (.float .f64 r) (w.drewN n) ∧ MinR x y r := by
  unfold MinR
  cases h : FloatKind.f64.format.order x y with
  | some o =>
    cases o <;> simp only
    · exact ⟨_, 0, by simp [Builtin.min_, Builtin.min2, h]; rfl, rfl⟩
    · exact ⟨_, 0, by simp [Builtin.min_, Builtin.min2, h]; rfl, rfl⟩
    · exact ⟨_, 0, by simp [Builtin.min_, Builtin.min2, h]; rfl, rfl⟩
  | none =>
    exact ⟨(Question.nanMinMax .f64 false x y).cut (w.tape w.drawn (.nanMinMax .f64 false x y)), 1, by simp [Builtin.min_, Builtin.min2, h, Question.forced]; rfl, nan_cut_minmax _ _ _ _⟩
theorem run_max (ts : Array TypeId) (t : TypeId) (x y : Nat) (w : World) : ∃ r n, (Builtin.max_ ts t #[.float .f64 x, .float .f64 y]).run P w = .ok (.float .f64 r) (w.drewN n) ∧ MaxR x y r := by
  unfold MaxR
  cases h : FloatKind.f64.format.order x y with
  | some o =>
    cases o <;> simp only
    · exact ⟨_, 0, by simp [Builtin.max_, Builtin.max2, h]; rfl, rfl⟩
    · exact ⟨_, 0, by simp [Builtin.max_, Builtin.max2, h]; rfl, rfl⟩
    · exact ⟨_, 0, by simp [Builtin.max_, Builtin.max2, h]; rfl, rfl⟩
  | none =>
    exact ⟨(Question.nanMinMax .f64 true x y).cut (w.tape w.drawn (.nanMinMax .f64 true x y)), 1, by simp [Builtin.max_, Builtin.max2, h, Question.forced]; rfl, nan_cut_minmax _ _ _ _⟩
end
end Go.Proofs.YbulkbspoDoor
