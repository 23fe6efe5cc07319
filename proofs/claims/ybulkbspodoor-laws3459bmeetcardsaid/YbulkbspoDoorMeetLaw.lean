/-
  PLAIN: two bounds that are no NaNs meet.
-/
import Derived.Test.YbulkbspoDoorNarrow
namespace Go.Proofs.YbulkbspoDoor

theorem cmpF_pos {x y : Nat} (hx : nanB x = false) (hy : nanB y = false) : 0 < cmpF x y ↔ FloatKind.f64.format.order x y = some .gt := by
  unfold cmpF
  rw [hx, hy, if_neg (by decide), if_neg (by decide)]
  by_cases h1 : FloatKind.f64.format.order x y = some .lt
  · rw [if_pos h1, h1]; simp
  · rw [if_neg h1]
    by_cases h2 : FloatKind.f64.format.order x y = some .gt
    · rw [if_pos h2]; simp [h2]
    · rw [if_neg h2]; simp [h2]
theorem cmpF_neg {x y : Nat} (hx : nanB x = false) (hy : nanB y = false) : cmpF x y < 0 ↔ FloatKind.f64.format.order x y = some .lt := by
  unfold cmpF
  rw [hx, hy, if_neg (by decide), if_neg (by decide)]
  by_cases h1 : FloatKind.f64.format.order x y = some .lt
  · rw [if_pos h1]; simp [h1]
  · rw [if_neg h1]
    by_cases h2 : FloatKind.f64.format.order x y = some .gt
    · rw [if_pos h2]; simp [h2]
    · rw [if_neg h2]; simp [h1]

/-- The greater of two, as a key is left with it. -/
def upF (a b : Nat) : Nat := if 0 < cmpF b a then b else a
def dnF (a b : Nat) : Nat := if cmpF b a < 0 then b else a

theorem order_some {x y : Nat} (hx : nanB x = false) (hy : nanB y = false) : ∃ o, FloatKind.f64.format.order x y = some o := by
  have h : ∀ d e : Ieee.Datum, d.isNaN = false → e.isNaN = false → ∃ o, d.order e = some o := by
    intro d e hd he
    cases d <;> cases e <;> simp_all [Ieee.Datum.isNaN, Ieee.Datum.order]
  exact h _ _ hx hy

theorem up_left {a b m : Nat} (ha : nanB a = false) (hb : nanB b = false) (h : MaxR a b m) : (FloatKind.f64.format.order (upF a b) m == some .eq) = true := by
  obtain ⟨o, ho⟩ := order_some ha hb
  have hs : FloatKind.f64.format.order b a = some o.swap := by rw [order_swap a b, ho]; rfl
  unfold MaxR at h
  rw [ho] at h
  unfold upF
  simp only [cmpF_pos hb ha, hs]
  cases o <;> simp only [Ordering.swap] at *
  · subst h; simp [order_self hb]
  · by_cases hn : (FloatKind.f64.decode a).neg = true
    · rw [if_pos hn] at h; subst h; simp [ho]
    · rw [if_neg hn] at h; subst h; simp [order_self ha]
  · subst h; simp [order_self ha]
theorem up_right {a b m : Nat} (ha : nanB a = false) (hb : nanB b = false) (h : MaxR a b m) : (FloatKind.f64.format.order (upF b a) m == some .eq) = true := by
  obtain ⟨o, ho⟩ := order_some ha hb
  have hs : FloatKind.f64.format.order b a = some o.swap := by rw [order_swap a b, ho]; rfl
  unfold MaxR at h
  rw [ho] at h
  unfold upF
  simp only [cmpF_pos ha hb, ho]
  cases o <;> simp only [Ordering.swap] at *
  · subst h; simp [order_self hb]
  · by_cases hn : (FloatKind.f64.decode a).neg = true
    · rw [if_pos hn] at h; subst h; simp [order_self hb]
    · rw [if_neg hn] at h; subst h; simp [hs]
  · subst h; simp [order_self ha]
theorem dn_left {a b m : Nat} (ha : nanB a = false) (hb : nanB b = false) (h : MinR a b m) : (FloatKind.f64.format.order (dnF a b) m == some .eq) = true := by
  obtain ⟨o, ho⟩ := order_some ha hb
  have hs : FloatKind.f64.format.order b a = some o.swap := by rw [order_swap a b, ho]; rfl
  unfold MinR at h
  rw [ho] at h
  unfold dnF
  simp only [cmpF_neg hb ha, hs]
  cases o <;> simp only [Ordering.swap] at *
  · subst h; simp [order_self ha]
  · by_cases hn : (FloatKind.f64.decode a).neg = true
    · rw [if_pos hn] at h; subst h; simp [order_self ha]
    · rw [if_neg hn] at h; subst h; simp [ho]
  · subst h; simp [order_self hb]
theorem dn_right {a b m : Nat} (ha : nanB a = false) (hb : nanB b = false) (h : MinR a b m) : (FloatKind.f64.format.order (dnF b a) m == some .eq) = true := by
  obtain ⟨o, ho⟩ := order_some ha hb
  have hs : FloatKind.f64.format.order b a = some o.swap := by rw [order_swap a b, ho]; rfl
  unfold MinR at h
  rw [ho] at h
  unfold dnF
  simp only [cmpF_neg ha hb, ho]
  cases o <;> simp only [Ordering.swap] at *
  · subst h; simp [order_self ha]
  · by_cases hn : (FloatKind.f64.decode a).neg = true
    · rw [if_pos hn] at h; subst h; simp [hs]
    · rw [if_neg hn] at h; subst h; simp [order_self hb]
  · subst h; simp [order_self hb]

/-- Two numeric keys: what narrowKey leaves of the range. -/
theorem narrowed_num (c p : Col) (ndv : Nat) (has : Bool) (h1 : c.ik = 1) (h2 : p.ik = 1) (h3 : c.ak = 1) (h4 : p.ak = 1) :
    (narrowed c p ndv has).ik = 1 ∧ (narrowed c p ndv has).inn = upF c.inn p.inn ∧ (narrowed c p ndv has).ak = 1 ∧ (narrowed c p ndv has).an = dnF c.an p.an := by
  have t1 : takeMin { { c with ndv := ndv, has := has } with dom := 0, rows := 0 } p = decide (0 < cmpF p.inn c.inn) := by
    unfold takeMin cmpV; simp [h1, h2]
  unfold narrowed minCol upF dnF
  rw [t1]
  by_cases h : 0 < cmpF p.inn c.inn
  · rw [if_pos (decide_eq_true h), if_pos h]
    have t2 : takeMax { { { { c with ndv := ndv, has := has } with dom := 0, rows := 0 } with ik := p.ik, inn := p.inn, ist := p.ist } with dom := 0 } p = decide (cmpF p.an c.an < 0) := by
      unfold takeMax cmpV; simp [h3, h4]
    unfold maxCol
    rw [show takeMax _ p = decide (cmpF p.an c.an < 0) from t2]
    by_cases k : cmpF p.an c.an < 0
    · rw [if_pos (decide_eq_true k), if_pos k]; exact ⟨h2, rfl, h4, rfl⟩
    · rw [if_neg (by simpa using k), if_neg k]; exact ⟨h2, rfl, h3, rfl⟩
  · rw [if_neg (by simpa using h), if_neg h]
    have t2 : takeMax { { c with ndv := ndv, has := has } with dom := 0, rows := 0 } p = decide (cmpF p.an c.an < 0) := by
      unfold takeMax cmpV; simp [h3, h4]
    unfold maxCol
    rw [show takeMax _ p = decide (cmpF p.an c.an < 0) from t2]
    by_cases k : cmpF p.an c.an < 0
    · rw [if_pos (decide_eq_true k), if_pos k]; exact ⟨h1, rfl, h4, rfl⟩
    · rw [if_neg (by simpa using k), if_neg k]; exact ⟨h1, rfl, h3, rfl⟩
end Go.Proofs.YbulkbspoDoor
