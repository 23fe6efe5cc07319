/-
  PLAIN: what narrowKey leaves, and the law's own want, agree.
-/
import Derived.Test.YbulkbspoDoorNarrow
namespace Go.Proofs.YbulkbspoDoor

theorem held_eqv {n d r x y : Nat} (a : HeldR n d r x) (b : HeldR n d r y) : Eqv x y := by
  obtain ⟨m, h1, h2⟩ := a
  obtain ⟨m', k1, k2⟩ := b
  exact h2.eqv k2 (Eqv.refl _) (h1.eqv k1 (Eqv.refl _) (Eqv.refl _))
theorem dom_eqv {n d r x y : Nat} (a : DomR n d r x) (b : DomR n d r y) : Eqv x y := by
  unfold DomR at a b
  by_cases h : gtB d n = true
  · rw [if_pos h] at a b; exact held_eqv a b
  · rw [if_neg h] at a b; rw [a, b]; exact Eqv.refl _
theorem core_eqv {an bn d d' x y : Nat} (h : Eqv d d') (a : CoreR an d bn x) (b : CoreR an d' bn y) : Eqv x y := by
  have e : leB d 0 = leB d' 0 := by unfold leB; rw [order_congr h (Eqv.refl 0)]
  unfold CoreR at a b
  rw [e] at a
  by_cases k : leB d' 0 = true
  · rw [if_pos k] at a b; rw [a, b]; exact Eqv.refl _
  · rw [if_neg k] at a b
    obtain ⟨q, h1, h2⟩ := a
    obtain ⟨q', k1, k2⟩ := b
    exact h2.eqv k2 (Eqv.refl _) (h1.eqv k1 (Eqv.refl _) h)
theorem shared_eqv {an bn d d' e e' x y : Nat} (h : Eqv d d') (k : Eqv e e') (a : SharedR an d bn e x) (b : SharedR an d' bn e' y) : Eqv x y := by
  have q : ltB d e = ltB d' e' := by unfold ltB; rw [order_congr h k]
  unfold SharedR at a b
  rw [q] at a
  by_cases z : ltB d' e' = true
  · rw [if_pos z] at a b; exact core_eqv k a b
  · rw [if_neg z] at a b; exact core_eqv h a b
theorem cap_eqv {t : Int} {d x y : Nat} (a : CapR t d x) (b : CapR t d y) : Eqv x y := by
  unfold CapR at a b
  by_cases h1 : t = 1
  · rw [if_pos h1] at a b; exact a.eqv b (Eqv.refl _) (Eqv.refl _)
  · rw [if_neg h1] at a b
    by_cases h2 : t = 2
    · rw [if_pos h2] at a b; exact a.eqv b (Eqv.refl _) (Eqv.refl _)
    · rw [if_neg h2] at a b
      by_cases h3 : t = 3
      · rw [if_pos h3] at a b; exact a.eqv b (Eqv.refl _) (Eqv.refl _)
      · rw [if_neg h3] at a b; rw [a, b]; exact Eqv.refl _
theorem ndv_eqv {c p : Col} {x y : Nat} {h k : Bool} (a : NdvR c p x h) (b : NdvR c p y k) : h = k ∧ feq x y = true := by
  unfold NdvR at a b
  by_cases z : (c.has && p.has) = true
  · rw [if_pos z] at a b
    obtain ⟨⟨d, e, a1, a2, a3⟩, a4⟩ := a
    obtain ⟨⟨d', e', b1, b2, b3⟩, b4⟩ := b
    exact ⟨a4.trans b4.symm, feq_of_eqv (shared_eqv (dom_eqv a1 b1) (dom_eqv a2 b2) a3 b3)⟩
  · rw [if_neg z] at a b
    by_cases z2 : p.has = true
    · rw [if_pos z2] at a b; exact ⟨a.2.trans b.2.symm, feq_of_eqv (cap_eqv a.1 b.1)⟩
    · rw [if_neg z2] at a b; rw [a.1, b.1]; exact ⟨a.2.trans b.2.symm, feq_of_eqv (Eqv.refl _)⟩

/-- WHAT IS LEFT OF THE COLUMN c, the partner being p. -/
structure Kept (c p n : Col) : Prop where
  nul : n.nul = 0
  ndv : NdvR c p n.ndv n.has
  dom : n.dom = 0
  rows : n.rows = 0
  ik : n.ik = (minCol c p).ik
  inn : n.inn = (minCol c p).inn
  ist : n.ist = (minCol c p).ist
  ak : n.ak = (maxCol c p).ak
  an : n.an = (maxCol c p).an
  ast : n.ast = (maxCol c p).ast
  nm : n.nm = c.nm
  ty : n.ty = c.ty
  tf : n.tf = c.tf
  ht : n.ht = c.ht
  ma : n.ma = none
  ml : n.ml = 0
  mc : n.mc = 0
  ha : n.ha = none
  hl : n.hl = 0
  hc : n.hc = 0
theorem kept_narrowed (c p : Col) (ndv : Nat) (has : Bool) (h : NdvR { c with nul := 0 } p ndv has) : Kept c p (narrowed { c with nul := 0 } p ndv has) := by
  have hn : NdvR c p ndv has := h
  have t1 : takeMin { { { c with nul := 0 } with ndv := ndv, has := has } with dom := 0, rows := 0 } p = takeMin c p := rfl
  unfold narrowed minCol
  rw [t1]
  cases e1 : takeMin c p
  · rw [if_neg (by decide)]
    have t2 : takeMax { { { c with nul := 0 } with ndv := ndv, has := has } with dom := 0, rows := 0 } p = takeMax c p := rfl
    have m1 : minCol c p = c := by unfold minCol; rw [e1]; rfl
    unfold maxCol
    rw [t2]
    cases e2 : takeMax c p
    · have m2 : maxCol c p = c := by unfold maxCol; rw [e2]; rfl
      rw [if_neg (by decide)]
      exact ⟨rfl, hn, rfl, rfl, by rw [m1], by rw [m1], by rw [m1], by rw [m2], by rw [m2], by rw [m2], rfl, rfl, rfl, rfl, rfl, rfl, rfl, rfl, rfl, rfl⟩
    · have m2 : maxCol c p = { c with ak := p.ak, an := p.an, ast := p.ast } := by unfold maxCol; rw [e2]; rfl
      rw [if_pos rfl]
      exact ⟨rfl, hn, rfl, rfl, by rw [m1], by rw [m1], by rw [m1], by rw [m2], by rw [m2], by rw [m2], rfl, rfl, rfl, rfl, rfl, rfl, rfl, rfl, rfl, rfl⟩
  · rw [if_pos rfl]
    have t2 : takeMax { { { { c with nul := 0 } with ndv := ndv, has := has } with dom := 0, rows := 0 } with ik := p.ik, inn := p.inn, ist := p.ist } p = takeMax c p := rfl
    have m1 : minCol c p = { c with ik := p.ik, inn := p.inn, ist := p.ist } := by unfold minCol; rw [e1]; rfl
    unfold maxCol
    rw [show takeMax _ p = takeMax c p from t2]
    cases e2 : takeMax c p
    · have m2 : maxCol c p = c := by unfold maxCol; rw [e2]; rfl
      rw [if_neg (by decide)]
      exact ⟨rfl, hn, rfl, rfl, by rw [m1], by rw [m1], by rw [m1], by rw [m2], by rw [m2], by rw [m2], rfl, rfl, rfl, rfl, rfl, rfl, rfl, rfl, rfl, rfl⟩
    · have m2 : maxCol c p = { c with ak := p.ak, an := p.an, ast := p.ast } := by unfold maxCol; rw [e2]; rfl
      rw [if_pos rfl]
      exact ⟨rfl, hn, rfl, rfl, by rw [m1], by rw [m1], by rw [m1], by rw [m2], by rw [m2], by rw [m2], rfl, rfl, rfl, rfl, rfl, rfl, rfl, rfl, rfl, rfl⟩
end Go.Proofs.YbulkbspoDoor
