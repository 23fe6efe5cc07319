/-
  narrowKey.
-/
import Derived.Test.YbulkbspoDoorState
import Derived.Deep.RegionLaw
namespace Go.Proofs.YbulkbspoDoor
open Go.RowKit
set_option linter.unusedSimpArgs false
attribute [local go_sem] alloc_drewN setCell_drewN run_store_float blk_drew blk_drewN
attribute [local go_sem] ptrHead_mk ptrBlk_mk

/-- THE RULE, AS ONE STEP OF A REGION THAT DRAWS: a whole column's load, never cell by cell. -/
theorem step_load32 {ops : Array Oper} {o : Oper} {a : Act} {w : World} {K : Act → World → Prop} {Q : Exit → Act → World → Prop} {E : Prop}
    (hg : o.guard = none) (x : Operand) (hop : o.op = .load 32 x) (b : Nat) (hx : a.eval x = .pointer (some ⟨b, 0, none⟩)) (cs : Array Value) (hb : blk w b = cs) (hs : cs.size = 17)
    (hK : K (a.put o.dst (.agg cs)) w) : if Region.wanted o (yielded ops a.tmps) = true then Oper.wp Ybad.prog o a w K Q else E := by
  have hw : Region.wanted o (yielded ops a.tmps) = true := by simp [Region.wanted, hg]
  rw [if_pos hw]
  obtain ⟨dst, op, ty, pos, after, guard⟩ := o
  dsimp only at hop
  subst hop
  subst hb
  have e := exec_load32 a.eval dst x ty pos after guard w (by rw [hx]; rfl) (by rw [hx]; exact hs)
  rw [hx] at e
  unfold Oper.wp
  rw [e]
  exact hK

/-- WHAT narrowKey MAKES OF THE DISTINCT COUNT. -/
def NdvR (c p : Col) (ndv : Nat) (has : Bool) : Prop :=
  if (c.has && p.has) = true then (∃ da db, DomR c.ndv c.dom c.rows da ∧ DomR p.ndv p.dom p.rows db ∧ SharedR c.ndv da p.ndv db ndv) ∧ has = c.has
  else if p.has = true then CapR c.ty p.ndv ndv ∧ has = true else ndv = c.ndv ∧ has = c.has
theorem ndvR_both {c p : Col} {da db ndv : Nat} (h : (c.has && p.has) = true) (a : DomR c.ndv c.dom c.rows da) (b : DomR p.ndv p.dom p.rows db) (s : SharedR c.ndv da p.ndv db ndv) : NdvR c p ndv c.has := by
  unfold NdvR; rw [if_pos h]; exact ⟨⟨da, db, a, b, s⟩, rfl⟩
theorem ndvR_cap {c p : Col} {ndv : Nat} (h : (c.has && p.has) = false) (h2 : p.has = true) (s : CapR c.ty p.ndv ndv) : NdvR c p ndv true := by
  unfold NdvR; rw [if_neg (by rw [h]; simp), if_pos h2]; exact ⟨s, rfl⟩
theorem ndvR_none {c p : Col} (h : (c.has && p.has) = false) (h2 : p.has = false) : NdvR c p c.ndv c.has := by
  unfold NdvR; rw [if_neg (by rw [h]; simp), if_neg (by rw [h2]; simp)]; exact ⟨rfl, rfl⟩

theorem forget_any (b : Nat) (w : World) (v1 v2 : Value) (c1 : w.cell? ⟨b, 15, none⟩ = some v1) (c2 : w.cell? ⟨b, 16, none⟩ = some v2) (f1 : w.frozen? ⟨b, 15, none⟩ = false) (f2 : w.frozen? ⟨b, 16, none⟩ = false) :
    Calls Ybad.prog 17 #[.pointer (some ⟨b, 0, none⟩)] w fun e w' => e = .returned (.tuple #[]) ∧ w' = (w.setCell ⟨b, 15, none⟩ (.float .f64 0)).setCell ⟨b, 16, none⟩ (.float .f64 0) := by
  go_enter Ybad.func17, Ybad.ntmps17
  go_wp2
  go_end0
  exact ⟨rfl, rfl⟩

theorem known_false {k : Int} {n : Nat} {s : ByteArray} (h : (k != 0) = false) (w : World) : Calls Ybad.prog 18 #[.agg (V3 k n s)] w fun e w' => e = .returned (.bool false) ∧ w' = w.alloc (.cells (V3 k n s) 28) := by
  have := known_any k n s w
  rw [h] at this
  exact this
theorem known_true {k : Int} {n : Nat} {s : ByteArray} (h : (k != 0) = true) (w : World) : Calls Ybad.prog 18 #[.agg (V3 k n s)] w fun e w' => e = .returned (.bool true) ∧ w' = w.alloc (.cells (V3 k n s) 28) := by
  have := known_any k n s w
  rw [h] at this
  exact this

/-- IS THE PARTNER's LEAST (GREATEST) VALUE TAKEN? -/
def takeMin (c p : Col) : Bool := (p.ik != 0) && ((c.ik == 0) || decide (0 < cmpV p.ik p.inn p.ist c.inn c.ist))
def takeMax (c p : Col) : Bool := (p.ak != 0) && ((c.ak == 0) || decide (cmpV p.ak p.an p.ast c.an c.ast < 0))
def minCol (c p : Col) : Col := if takeMin c p then { c with ik := p.ik, inn := p.inn, ist := p.ist } else c
def maxCol (c p : Col) : Col := if takeMax c p then { c with ak := p.ak, an := p.an, ast := p.ast } else c

/-- WHAT narrowKey LEAVES OF THE COLUMN (c: with no NULLs), given its new distinct count. -/
def narrowed (c p : Col) (ndv : Nat) (has : Bool) : Col :=
  { maxCol (minCol { { c with ndv := ndv, has := has } with dom := 0, rows := 0 } p) p with ma := none, ml := 0, mc := 0, ha := none, hl := 0, hc := 0 }

set_option maxRecDepth 100000 in
set_option maxHeartbeats 4000000 in
theorem narrow_any (c p : Col) (b : Nat) (w : World) (hb : b < w.heap.size) (hb0 : b ≠ 0) (hB : w.heap[b]? = some (.cells c.cells 32)) (tab : Tab w) (ht0 : 0 ≤ c.ty) (ht1 : c.ty ≤ 255) :
    Calls Ybad.prog 6 #[.pointer (some ⟨b, 0, none⟩), .agg p.cells] w fun e w' => e = .returned (.tuple #[]) ∧ ∃ c1 ndv has, c1 = { c with nul := 0 } ∧ NdvR c1 p ndv has ∧ Nar w b (narrowed c1 p ndv has) w' := by
  have H0 : Hid (St w b c p (w.alloc (.cells p.cells 32))) := St.start p hB hb
  have H1 : Hid (St w b { c with nul := 0 } p ((w.setCell ⟨b, 4, none⟩ (.float .f64 0)).alloc (.cells p.cells 32))) := by
    rw [← World.setCell_alloc_past _ _ _ _ hb]; exact H0.out.set' 4 _ rfl
  have c3 : w.cell? ⟨b, 3, none⟩ = some (.bool c.has) := cell_of_row _ _ _ _ _ _ hB
  have c4 : w.cell? ⟨b, 4, none⟩ = some (.float .f64 c.nul) := cell_of_row _ _ _ _ _ _ hB
  have f4 : w.frozen? ⟨b, 4, none⟩ = false := frozen_of_row _ _ _ _ _ hB
  have Tb : Hid (Tab w) := tab
  have HB : Hid (w.heap[b]? = some (.cells c.cells 32)) := hB
  clear tab hB
  go_enter Ybad.func6, Ybad.ntmps6
  go_upto_region 2 with fail
  go_cut [14] from 4 to 99 (fun t wc => ∃ c1 : Col, t = .bool (c1.has && p.has) ∧ c1 = { c with nul := 0 } ∧ St w b c1 p wc)
  case first =>
    cases hh : c.has
    · go_wp2
      go_meet
      case rel => exact ⟨_, by simp [hh], rfl, H1⟩
    · cases hp : p.has
      · go_wp2
        go_meet
        case rel => exact ⟨_, by simp [hh, hp], rfl, H1⟩
      · go_wp2
        go_meet
        case rel => exact ⟨_, by simp [hh, hp], rfl, H1⟩
  case rest =>
    obtain ⟨c1, rfl, HC1, H2⟩ := hcut
    have hc1 : Hid (c1 = { c with nul := 0 }) := HC1
    have h2 : Hid (St w b c1 p wc) := H2
    have t0 : 0 ≤ c1.ty := by rw [HC1]; exact ht0
    have t1 : c1.ty ≤ 255 := by rw [HC1]; exact ht1
    clear H1 H2 H0 c3 c4 f4 HC1
    go_upto_if 14 with fail
    go_cut [] from 4 to 99 (fun wd => ∃ ndv has, St w b { c1 with ndv := ndv, has := has } p wd ∧ NdvR c1 p ndv has)
    case first =>
      cases hhp : c1.has && p.has
      · have p3 : wc.cell? ⟨w.heap.size, 3, none⟩ = some (.bool p.has) := h2.out.pcell 3
        cases hp : p.has
        · go_wp2
          go_meet
          case rel => exact ⟨c1.ndv, c1.has, h2, ndvR_none hhp hp⟩
        · have q1 : wc.cell? ⟨b, 1, none⟩ = some (.int .u8 c1.ty) := h2.out.cell 1
          have q2 : wc.cell? ⟨b, 2, none⟩ = some (.float .f64 c1.ndv) := h2.out.cell 2
          have q3 : wc.cell? ⟨b, 3, none⟩ = some (.bool c1.has) := h2.out.cell 3
          have g2 : wc.frozen? ⟨b, 2, none⟩ = false := h2.out.thaw 2
          have g3 : wc.frozen? ⟨b, 3, none⟩ = false := h2.out.thaw 3
          have p2 : wc.cell? ⟨w.heap.size, 2, none⟩ = some (.float .f64 p.ndv) := h2.out.pcell 2
          have tb2 : Hid (Tab wc) := h2.out.tab hb0 Tb.out
          go_upto_region 5 with fail
          go_region_law (go_simp; (go_at_call 16; refine (cap_any c1.ty t0 t1 p.ndv _ ?_).mono ?_; exact tb2; rintro e w' ⟨r, n, rfl, rfl, hr⟩; dsimp only))
          all_goals go_wp2
          all_goals go_meet
          all_goals (case rel => exact ⟨r, true, ((h2.out.setNdv r).setHas true).drewN' _, ndvR_cap hhp hp hr⟩)
      · have l1 : blk wc.drew b = c1.cells := blk_of h2.out.drew'.nar.own
        have l2 : blk wc.drew w.heap.size = p.cells := blk_of h2.out.drew'.par
        go_upto_region 3 with fail
        refine wp_region_any (by kernel_rfl) ?_
        change wpAny _ _ _ _ _ _ _ (World.drew _)
        refine wpAny_take (i := 0) (v := .pointer (some ⟨b, 0, none⟩)) rfl (by kernel_rfl) (by kernel_rfl) (by kernel_rfl) (fun _ _ _ h => h) (Or.inl ⟨by kernel_rfl, fun _ => by go_simp⟩) ?_; simp only [Act.put, List.getElem_toArray, List.getElem_cons_zero, List.getElem_cons_succ, List.setIfInBounds_toArray, List.set_cons_zero, List.set_cons_succ]
        refine wpAny_take (i := 1) (v := .pointer (some ⟨b, 0, none⟩)) rfl (by kernel_rfl) (by kernel_rfl) (by kernel_rfl) (fun _ _ _ h => h) (Or.inl ⟨by kernel_rfl, fun _ => by go_simp⟩) ?_; simp only [Act.put, List.getElem_toArray, List.getElem_cons_zero, List.getElem_cons_succ, List.setIfInBounds_toArray, List.set_cons_zero, List.set_cons_succ]
        refine wpAny_take (i := 2) (v := .pointer (some ⟨b, 0, none⟩)) rfl (by kernel_rfl) (by kernel_rfl) (by kernel_rfl) (fun _ _ _ h => h) (Or.inl ⟨by kernel_rfl, fun _ => by go_simp⟩) ?_; simp only [Act.put, List.getElem_toArray, List.getElem_cons_zero, List.getElem_cons_succ, List.setIfInBounds_toArray, List.set_cons_zero, List.set_cons_succ]
        refine wpAny_ready (rs := [3, 5]) (by kernel_rfl) (by simp) (AllReady.cons rfl (fun K hK => ?_) (AllReady.cons rfl (fun K hK => ?_) AllReady.nil))
        · refine step_load32 rfl _ rfl b rfl c1.cells l1 rfl ?_; refine hK _ _ ?_; clear hK K; simp only [Act.put, List.getElem_toArray, List.getElem_cons_zero, List.getElem_cons_succ, List.setIfInBounds_toArray, List.set_cons_zero, List.set_cons_succ]
          refine wpAny_ready (rs := [4, 5]) (by kernel_rfl) (by simp) (AllReady.cons rfl (fun K hK => ?_) (AllReady.cons rfl (fun K hK => ?_) AllReady.nil))
          · go_simp; refine (columnKey_any c1 _).mono ?_; rintro e w1 ⟨da, ka, rfl, hb1, hd1⟩; dsimp only; have s1 : Hid (St w b c1 p w1) := h2.out.drew'.below' hb1; refine hK _ _ ?_; clear hK K
            have l3 : blk w1 w.heap.size = p.cells := blk_of s1.out.par
            refine wpAny_ready (rs := [5]) (by kernel_rfl) (by simp) (AllReady.cons rfl (fun K hK => ?_) AllReady.nil); refine step_load32 rfl _ rfl w.heap.size rfl p.cells l3 rfl ?_; refine hK _ _ ?_; clear hK K; simp only [Act.put, List.getElem_toArray, List.getElem_cons_zero, List.getElem_cons_succ, List.setIfInBounds_toArray, List.set_cons_zero, List.set_cons_succ]
            refine wpAny_ready (rs := [6]) (by kernel_rfl) (by simp) (AllReady.cons rfl (fun K hK => ?_) AllReady.nil); go_simp; refine (columnKey_any p _).mono ?_; rintro e w2 ⟨db, kb, rfl, hb2, hd2⟩; dsimp only; have s2 : Hid (St w b c1 p w2) := s1.out.below' hb2; refine hK _ _ ?_; clear hK K
            refine wpAny_ready (rs := [7]) (by kernel_rfl) (by simp) (AllReady.cons rfl (fun K hK => ?_) AllReady.nil); go_simp; refine (shared_any _ _ _ _ _ _ _).mono ?_; rintro e w3 ⟨r, rfl, hb3, hs⟩; dsimp only; have s3 : Hid (St w b c1 p w3) := s2.out.below' hb3; have c2 : w3.cell? ⟨b, 2, none⟩ = some (.float .f64 c1.ndv) := s3.out.cell 2; have f2 : w3.frozen? ⟨b, 2, none⟩ = false := s3.out.thaw 2; refine hK _ _ ?_; clear hK K
            refine wpAny_take (i := 8) (v := .pointer (some ⟨b, 0, none⟩)) rfl (by kernel_rfl) (by kernel_rfl) (by kernel_rfl) (fun _ _ _ h => h) (Or.inl ⟨by kernel_rfl, fun _ => by go_simp⟩) ?_; simp only [Act.put, List.getElem_toArray, List.getElem_cons_zero, List.getElem_cons_succ, List.setIfInBounds_toArray, List.set_cons_zero, List.set_cons_succ]
            refine wpAny_take (i := 9) (v := .pointer (some ⟨b, 2, none⟩)) rfl (by kernel_rfl) (by kernel_rfl) (by kernel_rfl) (fun _ _ _ h => h) (Or.inl ⟨by kernel_rfl, fun _ => by go_simp⟩) ?_; simp only [Act.put, List.getElem_toArray, List.getElem_cons_zero, List.getElem_cons_succ, List.setIfInBounds_toArray, List.set_cons_zero, List.set_cons_succ]
            refine wpAny_ready (rs := [10]) (by kernel_rfl) (by simp) (AllReady.cons rfl (fun K hK => ?_) AllReady.nil); go_simp; refine hK _ _ ?_; clear hK K
            refine wpAny_done (by kernel_rfl) ?_ _
            go_wp2
            go_meet
            case rel => exact ⟨r, c1.has, s3.out.setNdv r, ndvR_both hhp hd1 hd2 hs⟩
          · refine step_load32 rfl _ rfl w.heap.size rfl p.cells l2 rfl ?_; refine hK _ _ ?_; clear hK K; simp only [Act.put, List.getElem_toArray, List.getElem_cons_zero, List.getElem_cons_succ, List.setIfInBounds_toArray, List.set_cons_zero, List.set_cons_succ]
            refine wpAny_ready (rs := [4]) (by kernel_rfl) (by simp) (AllReady.cons rfl (fun K hK => ?_) AllReady.nil); go_simp; refine (columnKey_any c1 _).mono ?_; rintro e w1 ⟨da, ka, rfl, hb1, hd1⟩; dsimp only; have s1 : Hid (St w b c1 p w1) := h2.out.drew'.below' hb1; refine hK _ _ ?_; clear hK K
            refine wpAny_ready (rs := [6]) (by kernel_rfl) (by simp) (AllReady.cons rfl (fun K hK => ?_) AllReady.nil); go_simp; refine (columnKey_any p _).mono ?_; rintro e w2 ⟨db, kb, rfl, hb2, hd2⟩; dsimp only; have s2 : Hid (St w b c1 p w2) := s1.out.below' hb2; refine hK _ _ ?_; clear hK K
            refine wpAny_ready (rs := [7]) (by kernel_rfl) (by simp) (AllReady.cons rfl (fun K hK => ?_) AllReady.nil); go_simp; refine (shared_any _ _ _ _ _ _ _).mono ?_; rintro e w3 ⟨r, rfl, hb3, hs⟩; dsimp only; have s3 : Hid (St w b c1 p w3) := s2.out.below' hb3; have c2 : w3.cell? ⟨b, 2, none⟩ = some (.float .f64 c1.ndv) := s3.out.cell 2; have f2 : w3.frozen? ⟨b, 2, none⟩ = false := s3.out.thaw 2; refine hK _ _ ?_; clear hK K
            refine wpAny_take (i := 8) (v := .pointer (some ⟨b, 0, none⟩)) rfl (by kernel_rfl) (by kernel_rfl) (by kernel_rfl) (fun _ _ _ h => h) (Or.inl ⟨by kernel_rfl, fun _ => by go_simp⟩) ?_; simp only [Act.put, List.getElem_toArray, List.getElem_cons_zero, List.getElem_cons_succ, List.setIfInBounds_toArray, List.set_cons_zero, List.set_cons_succ]
            refine wpAny_take (i := 9) (v := .pointer (some ⟨b, 2, none⟩)) rfl (by kernel_rfl) (by kernel_rfl) (by kernel_rfl) (fun _ _ _ h => h) (Or.inl ⟨by kernel_rfl, fun _ => by go_simp⟩) ?_; simp only [Act.put, List.getElem_toArray, List.getElem_cons_zero, List.getElem_cons_succ, List.setIfInBounds_toArray, List.set_cons_zero, List.set_cons_succ]
            refine wpAny_ready (rs := [10]) (by kernel_rfl) (by simp) (AllReady.cons rfl (fun K hK => ?_) AllReady.nil); go_simp; refine hK _ _ ?_; clear hK K
            refine wpAny_done (by kernel_rfl) ?_ _
            go_wp2
            go_meet
            case rel => exact ⟨r, c1.has, s3.out.setNdv r, ndvR_both hhp hd1 hd2 hs⟩
        · refine step_load32 rfl _ rfl w.heap.size rfl p.cells l2 rfl ?_; refine hK _ _ ?_; clear hK K; simp only [Act.put, List.getElem_toArray, List.getElem_cons_zero, List.getElem_cons_succ, List.setIfInBounds_toArray, List.set_cons_zero, List.set_cons_succ]
          refine wpAny_ready (rs := [3]) (by kernel_rfl) (by simp) (AllReady.cons rfl (fun K hK => ?_) AllReady.nil); refine step_load32 rfl _ rfl b rfl c1.cells l1 rfl ?_; refine hK _ _ ?_; clear hK K; simp only [Act.put, List.getElem_toArray, List.getElem_cons_zero, List.getElem_cons_succ, List.setIfInBounds_toArray, List.set_cons_zero, List.set_cons_succ]
          refine wpAny_ready (rs := [4]) (by kernel_rfl) (by simp) (AllReady.cons rfl (fun K hK => ?_) AllReady.nil); go_simp; refine (columnKey_any c1 _).mono ?_; rintro e w1 ⟨da, ka, rfl, hb1, hd1⟩; dsimp only; have s1 : Hid (St w b c1 p w1) := h2.out.drew'.below' hb1; refine hK _ _ ?_; clear hK K
          refine wpAny_ready (rs := [6]) (by kernel_rfl) (by simp) (AllReady.cons rfl (fun K hK => ?_) AllReady.nil); go_simp; refine (columnKey_any p _).mono ?_; rintro e w2 ⟨db, kb, rfl, hb2, hd2⟩; dsimp only; have s2 : Hid (St w b c1 p w2) := s1.out.below' hb2; refine hK _ _ ?_; clear hK K
          refine wpAny_ready (rs := [7]) (by kernel_rfl) (by simp) (AllReady.cons rfl (fun K hK => ?_) AllReady.nil); go_simp; refine (shared_any _ _ _ _ _ _ _).mono ?_; rintro e w3 ⟨r, rfl, hb3, hs⟩; dsimp only; have s3 : Hid (St w b c1 p w3) := s2.out.below' hb3; have c2 : w3.cell? ⟨b, 2, none⟩ = some (.float .f64 c1.ndv) := s3.out.cell 2; have f2 : w3.frozen? ⟨b, 2, none⟩ = false := s3.out.thaw 2; refine hK _ _ ?_; clear hK K
          refine wpAny_take (i := 8) (v := .pointer (some ⟨b, 0, none⟩)) rfl (by kernel_rfl) (by kernel_rfl) (by kernel_rfl) (fun _ _ _ h => h) (Or.inl ⟨by kernel_rfl, fun _ => by go_simp⟩) ?_; simp only [Act.put, List.getElem_toArray, List.getElem_cons_zero, List.getElem_cons_succ, List.setIfInBounds_toArray, List.set_cons_zero, List.set_cons_succ]
          refine wpAny_take (i := 9) (v := .pointer (some ⟨b, 2, none⟩)) rfl (by kernel_rfl) (by kernel_rfl) (by kernel_rfl) (fun _ _ _ h => h) (Or.inl ⟨by kernel_rfl, fun _ => by go_simp⟩) ?_; simp only [Act.put, List.getElem_toArray, List.getElem_cons_zero, List.getElem_cons_succ, List.setIfInBounds_toArray, List.set_cons_zero, List.set_cons_succ]
          refine wpAny_ready (rs := [10]) (by kernel_rfl) (by simp) (AllReady.cons rfl (fun K hK => ?_) AllReady.nil); go_simp; refine hK _ _ ?_; clear hK K
          refine wpAny_done (by kernel_rfl) ?_ _
          go_wp2
          go_meet
          case rel => exact ⟨r, c1.has, s3.out.setNdv r, ndvR_both hhp hd1 hd2 hs⟩
    case rest =>
      obtain ⟨ndv, has, HS, hN⟩ := hcut
      obtain ⟨c2, HC2⟩ : ∃ c2, c2 = { c1 with ndv := ndv, has := has } := ⟨_, rfl⟩
      rw [← HC2] at HS
      have hc2 : Hid (c2 = { c1 with ndv := ndv, has := has }) := HC2
      have h3 : Hid (St w b c2 p wc) := HS
      have HN : Hid (NdvR c1 p ndv has) := hN
      clear HC2 HS hN h2 t0 t1
      have q15 : wc.cell? ⟨b, 15, none⟩ = some (.float .f64 c2.dom) := h3.out.cell 15
      have q16 : wc.cell? ⟨b, 16, none⟩ = some (.float .f64 c2.rows) := h3.out.cell 16
      have g15 : wc.frozen? ⟨b, 15, none⟩ = false := h3.out.thaw 15
      have g16 : wc.frozen? ⟨b, 16, none⟩ = false := h3.out.thaw 16
      go_upto_region 7 with (go_at_call 17; refine (forget_any b _ _ _ q15 q16 g15 g16).mono ?_; rintro e w' ⟨rfl, rfl⟩)
      obtain ⟨c3, HC3⟩ : ∃ c3, c3 = { c2 with dom := 0, rows := 0 } := ⟨_, rfl⟩
      have hc3 : Hid (c3 = { c2 with dom := 0, rows := 0 }) := HC3
      have h4 : Hid (St w b c3 p ((wc.setCell ⟨b, 15, none⟩ (.float .f64 0)).setCell ⟨b, 16, none⟩ (.float .f64 0))) := by
        rw [HC3]; exact (h3.out.setDom 0).setRows 0
      clear HC3 h3 q15 q16 g15 g16
      obtain ⟨wd, hwd⟩ : ∃ wd, (wc.setCell ⟨b, 15, none⟩ (.float .f64 0)).setCell ⟨b, 16, none⟩ (.float .f64 0) = wd := ⟨_, rfl⟩
      rw [hwd] at h4
      rw [hwd]
      clear hwd
      go_cut [62] from 4 to 99 (fun t wx => t = .bool (takeMin c3 p) ∧ St w b c3 p wx)
      case first =>
        have hm : w.heap.size < wd.heap.size := h4.out.more
        have hbd : b < wd.heap.size := Nat.lt_trans hb hm
        have i5 : wd.cell? ⟨b, 5, none⟩ = some (.int .u8 c3.ik) := h4.out.cell 5
        have p5 : wd.cell? ⟨w.heap.size, 5, none⟩ = some (.int .u8 p.ik) := h4.out.pcell 5
        have i6 : wd.cell? ⟨b, 6, none⟩ = some (.float .f64 c3.inn) := h4.out.cell 6
        have p6 : wd.cell? ⟨w.heap.size, 6, none⟩ = some (.float .f64 p.inn) := h4.out.pcell 6
        have i7 : wd.cell? ⟨b, 7, none⟩ = some (.string c3.ist) := h4.out.cell 7
        have p7 : wd.cell? ⟨w.heap.size, 7, none⟩ = some (.string p.ist) := h4.out.pcell 7
        cases b0 : p.ik != 0
        · have hT : Hid (takeMin c3 p = false) := by unfold takeMin; rw [b0]; rfl
          have hk1 : Hid (∀ w', Calls Ybad.prog 18 #[.agg (V3 p.ik p.inn p.ist)] w' fun e w'' => e = .returned (.bool false) ∧ w'' = w'.alloc (.cells (V3 p.ik p.inn p.ist) 28)) := known_false b0
          refine wp_region_any (by kernel_rfl) ?_
          change wpAny _ _ _ _ _ _ _ (World.drew _)
          refine wpAny_take (i := 0) (v := .pointer (some ⟨w.heap.size, 5, none⟩)) rfl (by kernel_rfl) (by kernel_rfl) (by kernel_rfl) (fun _ _ _ h => h) (Or.inl ⟨by kernel_rfl, fun _ => by go_simp⟩) ?_; simp only [Act.put, List.getElem_toArray, List.getElem_cons_zero, List.getElem_cons_succ, List.setIfInBounds_toArray, List.set_cons_zero, List.set_cons_succ]
          refine wpAny_ready (rs := [1]) (by kernel_rfl) (by simp) (AllReady.cons rfl (fun K hK => ?_) AllReady.nil); go_simp; refine hK _ _ ?_; clear hK K
          refine wpAny_ready (rs := [2]) (by kernel_rfl) (by simp) (AllReady.cons rfl (fun K hK => ?_) AllReady.nil); go_simp; refine (hk1.out _).mono ?_; rintro e w' ⟨rfl, rfl⟩; dsimp only; refine hK _ _ ?_; clear hK K
          refine wpAny_take (i := 3) (v := .bool false) rfl (by kernel_rfl) (by kernel_rfl) (by kernel_rfl) (fun _ _ _ h => h) (Or.inl ⟨by kernel_rfl, fun _ => by go_simp⟩) ?_; simp only [Act.put, List.getElem_toArray, List.getElem_cons_zero, List.getElem_cons_succ, List.setIfInBounds_toArray, List.set_cons_zero, List.set_cons_succ]
          refine wpAny_take (i := 4) (v := undef) rfl (by kernel_rfl) (by kernel_rfl) (by kernel_rfl) (fun _ _ _ h => h) (Or.inr ⟨by kernel_rfl, rfl⟩) ?_; simp only [Act.put, List.getElem_toArray, List.getElem_cons_zero, List.getElem_cons_succ, List.setIfInBounds_toArray, List.set_cons_zero, List.set_cons_succ]
          refine wpAny_take (i := 5) (v := undef) rfl (by kernel_rfl) (by kernel_rfl) (by kernel_rfl) (fun _ _ _ h => h) (Or.inr ⟨by kernel_rfl, rfl⟩) ?_; simp only [Act.put, List.getElem_toArray, List.getElem_cons_zero, List.getElem_cons_succ, List.setIfInBounds_toArray, List.set_cons_zero, List.set_cons_succ]
          refine wpAny_take (i := 6) (v := undef) rfl (by kernel_rfl) (by kernel_rfl) (by kernel_rfl) (fun _ _ _ h => h) (Or.inr ⟨by kernel_rfl, rfl⟩) ?_; simp only [Act.put, List.getElem_toArray, List.getElem_cons_zero, List.getElem_cons_succ, List.setIfInBounds_toArray, List.set_cons_zero, List.set_cons_succ]
          refine wpAny_take (i := 7) (v := undef) rfl (by kernel_rfl) (by kernel_rfl) (by kernel_rfl) (fun _ _ _ h => h) (Or.inr ⟨by kernel_rfl, rfl⟩) ?_; simp only [Act.put, List.getElem_toArray, List.getElem_cons_zero, List.getElem_cons_succ, List.setIfInBounds_toArray, List.set_cons_zero, List.set_cons_succ]
          refine wpAny_take (i := 8) (v := undef) rfl (by kernel_rfl) (by kernel_rfl) (by kernel_rfl) (fun _ _ _ h => h) (Or.inr ⟨by kernel_rfl, rfl⟩) ?_; simp only [Act.put, List.getElem_toArray, List.getElem_cons_zero, List.getElem_cons_succ, List.setIfInBounds_toArray, List.set_cons_zero, List.set_cons_succ]
          refine wpAny_take (i := 9) (v := undef) rfl (by kernel_rfl) (by kernel_rfl) (by kernel_rfl) (fun _ _ _ h => h) (Or.inr ⟨by kernel_rfl, rfl⟩) ?_; simp only [Act.put, List.getElem_toArray, List.getElem_cons_zero, List.getElem_cons_succ, List.setIfInBounds_toArray, List.set_cons_zero, List.set_cons_succ]
          refine wpAny_take (i := 10) (v := undef) rfl (by kernel_rfl) (by kernel_rfl) (by kernel_rfl) (fun _ _ _ h => h) (Or.inr ⟨by kernel_rfl, rfl⟩) ?_; simp only [Act.put, List.getElem_toArray, List.getElem_cons_zero, List.getElem_cons_succ, List.setIfInBounds_toArray, List.set_cons_zero, List.set_cons_succ]
          refine wpAny_take (i := 11) (v := undef) rfl (by kernel_rfl) (by kernel_rfl) (by kernel_rfl) (fun _ _ _ h => h) (Or.inr ⟨by kernel_rfl, rfl⟩) ?_; simp only [Act.put, List.getElem_toArray, List.getElem_cons_zero, List.getElem_cons_succ, List.setIfInBounds_toArray, List.set_cons_zero, List.set_cons_succ]
          refine wpAny_take (i := 12) (v := undef) rfl (by kernel_rfl) (by kernel_rfl) (by kernel_rfl) (fun _ _ _ h => h) (Or.inr ⟨by kernel_rfl, rfl⟩) ?_; simp only [Act.put, List.getElem_toArray, List.getElem_cons_zero, List.getElem_cons_succ, List.setIfInBounds_toArray, List.set_cons_zero, List.set_cons_succ]
          refine wpAny_take (i := 13) (v := undef) rfl (by kernel_rfl) (by kernel_rfl) (by kernel_rfl) (fun _ _ _ h => h) (Or.inr ⟨by kernel_rfl, rfl⟩) ?_; simp only [Act.put, List.getElem_toArray, List.getElem_cons_zero, List.getElem_cons_succ, List.setIfInBounds_toArray, List.set_cons_zero, List.set_cons_succ]
          refine wpAny_take (i := 14) (v := undef) rfl (by kernel_rfl) (by kernel_rfl) (by kernel_rfl) (fun _ _ _ h => h) (Or.inr ⟨by kernel_rfl, rfl⟩) ?_; simp only [Act.put, List.getElem_toArray, List.getElem_cons_zero, List.getElem_cons_succ, List.setIfInBounds_toArray, List.set_cons_zero, List.set_cons_succ]
          refine wpAny_take (i := 15) (v := undef) rfl (by kernel_rfl) (by kernel_rfl) (by kernel_rfl) (fun _ _ _ h => h) (Or.inr ⟨by kernel_rfl, rfl⟩) ?_; simp only [Act.put, List.getElem_toArray, List.getElem_cons_zero, List.getElem_cons_succ, List.setIfInBounds_toArray, List.set_cons_zero, List.set_cons_succ]
          refine wpAny_take (i := 16) (v := undef) rfl (by kernel_rfl) (by kernel_rfl) (by kernel_rfl) (fun _ _ _ h => h) (Or.inr ⟨by kernel_rfl, rfl⟩) ?_; simp only [Act.put, List.getElem_toArray, List.getElem_cons_zero, List.getElem_cons_succ, List.setIfInBounds_toArray, List.set_cons_zero, List.set_cons_succ]
          refine wpAny_take (i := 17) (v := undef) rfl (by kernel_rfl) (by kernel_rfl) (by kernel_rfl) (fun _ _ _ h => h) (Or.inr ⟨by kernel_rfl, rfl⟩) ?_; simp only [Act.put, List.getElem_toArray, List.getElem_cons_zero, List.getElem_cons_succ, List.setIfInBounds_toArray, List.set_cons_zero, List.set_cons_succ]
          refine wpAny_take (i := 18) (v := undef) rfl (by kernel_rfl) (by kernel_rfl) (by kernel_rfl) (fun _ _ _ h => h) (Or.inr ⟨by kernel_rfl, rfl⟩) ?_; simp only [Act.put, List.getElem_toArray, List.getElem_cons_zero, List.getElem_cons_succ, List.setIfInBounds_toArray, List.set_cons_zero, List.set_cons_succ]
          refine wpAny_take (i := 19) (v := undef) rfl (by kernel_rfl) (by kernel_rfl) (by kernel_rfl) (fun _ _ _ h => h) (Or.inr ⟨by kernel_rfl, rfl⟩) ?_; simp only [Act.put, List.getElem_toArray, List.getElem_cons_zero, List.getElem_cons_succ, List.setIfInBounds_toArray, List.set_cons_zero, List.set_cons_succ]
          refine wpAny_take (i := 20) (v := .bool false) rfl (by kernel_rfl) (by kernel_rfl) (by kernel_rfl) (fun _ _ _ h => h) (Or.inl ⟨by kernel_rfl, fun _ => by go_simp⟩) ?_; simp only [Act.put, List.getElem_toArray, List.getElem_cons_zero, List.getElem_cons_succ, List.setIfInBounds_toArray, List.set_cons_zero, List.set_cons_succ]
          refine wpAny_done (by kernel_rfl) ?_ _
          go_wp2
          go_meet
          case rel => exact ⟨by rw [hT.out], h4.out.drew'.alloc' _⟩
        · cases b1 : c3.ik == 0
          · have hT : Hid (takeMin c3 p = decide (0 < cmpV p.ik p.inn p.ist c3.inn c3.ist)) := by unfold takeMin; rw [b0, b1]; rfl
            have b2 : (c3.ik != 0) = true := by simpa [bne] using b1
            have hk1 : Hid (∀ w', Calls Ybad.prog 18 #[.agg (V3 p.ik p.inn p.ist)] w' fun e w'' => e = .returned (.bool true) ∧ w'' = w'.alloc (.cells (V3 p.ik p.inn p.ist) 28)) := known_true b0
            have hk2 : Hid (∀ w', Calls Ybad.prog 18 #[.agg (V3 c3.ik c3.inn c3.ist)] w' fun e w'' => e = .returned (.bool true) ∧ w'' = w'.alloc (.cells (V3 c3.ik c3.inn c3.ist) 28)) := known_true b2
            refine wp_region_any (by kernel_rfl) ?_
            change wpAny _ _ _ _ _ _ _ (World.drew _)
            refine wpAny_take (i := 0) (v := .pointer (some ⟨w.heap.size, 5, none⟩)) rfl (by kernel_rfl) (by kernel_rfl) (by kernel_rfl) (fun _ _ _ h => h) (Or.inl ⟨by kernel_rfl, fun _ => by go_simp⟩) ?_; simp only [Act.put, List.getElem_toArray, List.getElem_cons_zero, List.getElem_cons_succ, List.setIfInBounds_toArray, List.set_cons_zero, List.set_cons_succ]
            refine wpAny_ready (rs := [1]) (by kernel_rfl) (by simp) (AllReady.cons rfl (fun K hK => ?_) AllReady.nil); go_simp; refine hK _ _ ?_; clear hK K
            refine wpAny_ready (rs := [2]) (by kernel_rfl) (by simp) (AllReady.cons rfl (fun K hK => ?_) AllReady.nil); go_simp; refine (hk1.out _).mono ?_; rintro e w' ⟨rfl, rfl⟩; dsimp only; refine hK _ _ ?_; clear hK K
            refine wpAny_take (i := 3) (v := .bool true) rfl (by kernel_rfl) (by kernel_rfl) (by kernel_rfl) (fun _ _ _ h => h) (Or.inl ⟨by kernel_rfl, fun _ => by go_simp⟩) ?_; simp only [Act.put, List.getElem_toArray, List.getElem_cons_zero, List.getElem_cons_succ, List.setIfInBounds_toArray, List.set_cons_zero, List.set_cons_succ]
            refine wpAny_take (i := 4) (v := .pointer (some ⟨b, 0, none⟩)) rfl (by kernel_rfl) (by kernel_rfl) (by kernel_rfl) (fun _ _ _ h => h) (Or.inl ⟨by kernel_rfl, fun _ => by go_simp⟩) ?_; simp only [Act.put, List.getElem_toArray, List.getElem_cons_zero, List.getElem_cons_succ, List.setIfInBounds_toArray, List.set_cons_zero, List.set_cons_succ]
            refine wpAny_take (i := 5) (v := .pointer (some ⟨b, 0, none⟩)) rfl (by kernel_rfl) (by kernel_rfl) (by kernel_rfl) (fun _ _ _ h => h) (Or.inl ⟨by kernel_rfl, fun _ => by go_simp⟩) ?_; simp only [Act.put, List.getElem_toArray, List.getElem_cons_zero, List.getElem_cons_succ, List.setIfInBounds_toArray, List.set_cons_zero, List.set_cons_succ]
            refine wpAny_take (i := 6) (v := .pointer (some ⟨b, 5, none⟩)) rfl (by kernel_rfl) (by kernel_rfl) (by kernel_rfl) (fun _ _ _ h => h) (Or.inl ⟨by kernel_rfl, fun _ => by go_simp⟩) ?_; simp only [Act.put, List.getElem_toArray, List.getElem_cons_zero, List.getElem_cons_succ, List.setIfInBounds_toArray, List.set_cons_zero, List.set_cons_succ]
            refine wpAny_ready (rs := [7]) (by kernel_rfl) (by simp) (AllReady.cons rfl (fun K hK => ?_) AllReady.nil); go_simp; refine hK _ _ ?_; clear hK K
            refine wpAny_ready (rs := [8]) (by kernel_rfl) (by simp) (AllReady.cons rfl (fun K hK => ?_) AllReady.nil); go_simp; refine (hk2.out _).mono ?_; rintro e w' ⟨rfl, rfl⟩; dsimp only; refine hK _ _ ?_; clear hK K
            refine wpAny_take (i := 9) (v := .bool false) rfl (by kernel_rfl) (by kernel_rfl) (by kernel_rfl) (fun _ _ _ h => h) (Or.inl ⟨by kernel_rfl, fun _ => by go_simp⟩) ?_; simp only [Act.put, List.getElem_toArray, List.getElem_cons_zero, List.getElem_cons_succ, List.setIfInBounds_toArray, List.set_cons_zero, List.set_cons_succ]
            refine wpAny_take (i := 10) (v := .bool false) rfl (by kernel_rfl) (by kernel_rfl) (by kernel_rfl) (fun _ _ _ h => h) (Or.inl ⟨by kernel_rfl, fun _ => by go_simp⟩) ?_; simp only [Act.put, List.getElem_toArray, List.getElem_cons_zero, List.getElem_cons_succ, List.setIfInBounds_toArray, List.set_cons_zero, List.set_cons_succ]
            refine wpAny_take (i := 11) (v := .pointer (some ⟨w.heap.size, 5, none⟩)) rfl (by kernel_rfl) (by kernel_rfl) (by kernel_rfl) (fun _ _ _ h => h) (Or.inl ⟨by kernel_rfl, fun _ => by go_simp⟩) ?_; simp only [Act.put, List.getElem_toArray, List.getElem_cons_zero, List.getElem_cons_succ, List.setIfInBounds_toArray, List.set_cons_zero, List.set_cons_succ]
            refine wpAny_take (i := 13) (v := .pointer (some ⟨b, 0, none⟩)) rfl (by kernel_rfl) (by kernel_rfl) (by kernel_rfl) (fun _ _ _ h => h) (Or.inl ⟨by kernel_rfl, fun _ => by go_simp⟩) ?_; simp only [Act.put, List.getElem_toArray, List.getElem_cons_zero, List.getElem_cons_succ, List.setIfInBounds_toArray, List.set_cons_zero, List.set_cons_succ]
            refine wpAny_take (i := 14) (v := .pointer (some ⟨b, 0, none⟩)) rfl (by kernel_rfl) (by kernel_rfl) (by kernel_rfl) (fun _ _ _ h => h) (Or.inl ⟨by kernel_rfl, fun _ => by go_simp⟩) ?_; simp only [Act.put, List.getElem_toArray, List.getElem_cons_zero, List.getElem_cons_succ, List.setIfInBounds_toArray, List.set_cons_zero, List.set_cons_succ]
            refine wpAny_take (i := 15) (v := .pointer (some ⟨b, 5, none⟩)) rfl (by kernel_rfl) (by kernel_rfl) (by kernel_rfl) (fun _ _ _ h => h) (Or.inl ⟨by kernel_rfl, fun _ => by go_simp⟩) ?_; simp only [Act.put, List.getElem_toArray, List.getElem_cons_zero, List.getElem_cons_succ, List.setIfInBounds_toArray, List.set_cons_zero, List.set_cons_succ]
            refine wpAny_ready (rs := [12, 16]) (by kernel_rfl) (by simp) (AllReady.cons rfl (fun K hK => ?_) (AllReady.cons rfl (fun K hK => ?_) AllReady.nil))
            · go_simp; refine hK _ _ ?_; clear hK K
              refine wpAny_ready (rs := [16]) (by kernel_rfl) (by simp) (AllReady.cons rfl (fun K hK => ?_) AllReady.nil); go_simp; refine hK _ _ ?_; clear hK K
              refine wpAny_ready (rs := [17]) (by kernel_rfl) (by simp) (AllReady.cons rfl (fun K hK => ?_) AllReady.nil); go_simp; refine (compareValues_any p.ik p.inn p.ist c3.ik c3.inn c3.ist _).mono ?_; rintro e w1 ⟨rfl, hb1⟩; dsimp only; refine hK _ _ ?_; clear hK K
              refine wpAny_take (i := 18) (v := .bool (decide (0 < cmpV p.ik p.inn p.ist c3.inn c3.ist))) rfl (by kernel_rfl) (by kernel_rfl) (by kernel_rfl) (fun _ _ _ h => h) (Or.inl ⟨by kernel_rfl, fun _ => by go_simp⟩) ?_; simp only [Act.put, List.getElem_toArray, List.getElem_cons_zero, List.getElem_cons_succ, List.setIfInBounds_toArray, List.set_cons_zero, List.set_cons_succ]
              refine wpAny_take (i := 19) (v := .bool (decide (0 < cmpV p.ik p.inn p.ist c3.inn c3.ist))) rfl (by kernel_rfl) (by kernel_rfl) (by kernel_rfl) (fun _ _ _ h => h) (Or.inl ⟨by kernel_rfl, fun _ => by go_simp⟩) ?_; simp only [Act.put, List.getElem_toArray, List.getElem_cons_zero, List.getElem_cons_succ, List.setIfInBounds_toArray, List.set_cons_zero, List.set_cons_succ]
              refine wpAny_take (i := 20) (v := .bool (decide (0 < cmpV p.ik p.inn p.ist c3.inn c3.ist))) rfl (by kernel_rfl) (by kernel_rfl) (by kernel_rfl) (fun _ _ _ h => h) (Or.inl ⟨by kernel_rfl, fun _ => by go_simp⟩) ?_; simp only [Act.put, List.getElem_toArray, List.getElem_cons_zero, List.getElem_cons_succ, List.setIfInBounds_toArray, List.set_cons_zero, List.set_cons_succ]
              refine wpAny_done (by kernel_rfl) ?_ _
              go_wp2
              go_meet
              case rel => exact ⟨by rw [hT.out], ((h4.out.drew'.alloc' _).alloc' _).below' hb1⟩
            · go_simp; refine hK _ _ ?_; clear hK K
              refine wpAny_ready (rs := [12]) (by kernel_rfl) (by simp) (AllReady.cons rfl (fun K hK => ?_) AllReady.nil); go_simp; refine hK _ _ ?_; clear hK K
              refine wpAny_ready (rs := [17]) (by kernel_rfl) (by simp) (AllReady.cons rfl (fun K hK => ?_) AllReady.nil); go_simp; refine (compareValues_any p.ik p.inn p.ist c3.ik c3.inn c3.ist _).mono ?_; rintro e w1 ⟨rfl, hb1⟩; dsimp only; refine hK _ _ ?_; clear hK K
              refine wpAny_take (i := 18) (v := .bool (decide (0 < cmpV p.ik p.inn p.ist c3.inn c3.ist))) rfl (by kernel_rfl) (by kernel_rfl) (by kernel_rfl) (fun _ _ _ h => h) (Or.inl ⟨by kernel_rfl, fun _ => by go_simp⟩) ?_; simp only [Act.put, List.getElem_toArray, List.getElem_cons_zero, List.getElem_cons_succ, List.setIfInBounds_toArray, List.set_cons_zero, List.set_cons_succ]
              refine wpAny_take (i := 19) (v := .bool (decide (0 < cmpV p.ik p.inn p.ist c3.inn c3.ist))) rfl (by kernel_rfl) (by kernel_rfl) (by kernel_rfl) (fun _ _ _ h => h) (Or.inl ⟨by kernel_rfl, fun _ => by go_simp⟩) ?_; simp only [Act.put, List.getElem_toArray, List.getElem_cons_zero, List.getElem_cons_succ, List.setIfInBounds_toArray, List.set_cons_zero, List.set_cons_succ]
              refine wpAny_take (i := 20) (v := .bool (decide (0 < cmpV p.ik p.inn p.ist c3.inn c3.ist))) rfl (by kernel_rfl) (by kernel_rfl) (by kernel_rfl) (fun _ _ _ h => h) (Or.inl ⟨by kernel_rfl, fun _ => by go_simp⟩) ?_; simp only [Act.put, List.getElem_toArray, List.getElem_cons_zero, List.getElem_cons_succ, List.setIfInBounds_toArray, List.set_cons_zero, List.set_cons_succ]
              refine wpAny_done (by kernel_rfl) ?_ _
              go_wp2
              go_meet
              case rel => exact ⟨by rw [hT.out], ((h4.out.drew'.alloc' _).alloc' _).below' hb1⟩
          · have hT : Hid (takeMin c3 p = true) := by unfold takeMin; rw [b0, b1]; rfl
            have b2 : (c3.ik != 0) = false := by simpa [bne] using b1
            have hk1 : Hid (∀ w', Calls Ybad.prog 18 #[.agg (V3 p.ik p.inn p.ist)] w' fun e w'' => e = .returned (.bool true) ∧ w'' = w'.alloc (.cells (V3 p.ik p.inn p.ist) 28)) := known_true b0
            have hk2 : Hid (∀ w', Calls Ybad.prog 18 #[.agg (V3 c3.ik c3.inn c3.ist)] w' fun e w'' => e = .returned (.bool false) ∧ w'' = w'.alloc (.cells (V3 c3.ik c3.inn c3.ist) 28)) := known_false b2
            refine wp_region_any (by kernel_rfl) ?_
            change wpAny _ _ _ _ _ _ _ (World.drew _)
            refine wpAny_take (i := 0) (v := .pointer (some ⟨w.heap.size, 5, none⟩)) rfl (by kernel_rfl) (by kernel_rfl) (by kernel_rfl) (fun _ _ _ h => h) (Or.inl ⟨by kernel_rfl, fun _ => by go_simp⟩) ?_; simp only [Act.put, List.getElem_toArray, List.getElem_cons_zero, List.getElem_cons_succ, List.setIfInBounds_toArray, List.set_cons_zero, List.set_cons_succ]
            refine wpAny_ready (rs := [1]) (by kernel_rfl) (by simp) (AllReady.cons rfl (fun K hK => ?_) AllReady.nil); go_simp; refine hK _ _ ?_; clear hK K
            refine wpAny_ready (rs := [2]) (by kernel_rfl) (by simp) (AllReady.cons rfl (fun K hK => ?_) AllReady.nil); go_simp; refine (hk1.out _).mono ?_; rintro e w' ⟨rfl, rfl⟩; dsimp only; refine hK _ _ ?_; clear hK K
            refine wpAny_take (i := 3) (v := .bool true) rfl (by kernel_rfl) (by kernel_rfl) (by kernel_rfl) (fun _ _ _ h => h) (Or.inl ⟨by kernel_rfl, fun _ => by go_simp⟩) ?_; simp only [Act.put, List.getElem_toArray, List.getElem_cons_zero, List.getElem_cons_succ, List.setIfInBounds_toArray, List.set_cons_zero, List.set_cons_succ]
            refine wpAny_take (i := 4) (v := .pointer (some ⟨b, 0, none⟩)) rfl (by kernel_rfl) (by kernel_rfl) (by kernel_rfl) (fun _ _ _ h => h) (Or.inl ⟨by kernel_rfl, fun _ => by go_simp⟩) ?_; simp only [Act.put, List.getElem_toArray, List.getElem_cons_zero, List.getElem_cons_succ, List.setIfInBounds_toArray, List.set_cons_zero, List.set_cons_succ]
            refine wpAny_take (i := 5) (v := .pointer (some ⟨b, 0, none⟩)) rfl (by kernel_rfl) (by kernel_rfl) (by kernel_rfl) (fun _ _ _ h => h) (Or.inl ⟨by kernel_rfl, fun _ => by go_simp⟩) ?_; simp only [Act.put, List.getElem_toArray, List.getElem_cons_zero, List.getElem_cons_succ, List.setIfInBounds_toArray, List.set_cons_zero, List.set_cons_succ]
            refine wpAny_take (i := 6) (v := .pointer (some ⟨b, 5, none⟩)) rfl (by kernel_rfl) (by kernel_rfl) (by kernel_rfl) (fun _ _ _ h => h) (Or.inl ⟨by kernel_rfl, fun _ => by go_simp⟩) ?_; simp only [Act.put, List.getElem_toArray, List.getElem_cons_zero, List.getElem_cons_succ, List.setIfInBounds_toArray, List.set_cons_zero, List.set_cons_succ]
            refine wpAny_ready (rs := [7]) (by kernel_rfl) (by simp) (AllReady.cons rfl (fun K hK => ?_) AllReady.nil); go_simp; refine hK _ _ ?_; clear hK K
            refine wpAny_ready (rs := [8]) (by kernel_rfl) (by simp) (AllReady.cons rfl (fun K hK => ?_) AllReady.nil); go_simp; refine (hk2.out _).mono ?_; rintro e w' ⟨rfl, rfl⟩; dsimp only; refine hK _ _ ?_; clear hK K
            refine wpAny_take (i := 9) (v := .bool true) rfl (by kernel_rfl) (by kernel_rfl) (by kernel_rfl) (fun _ _ _ h => h) (Or.inl ⟨by kernel_rfl, fun _ => by go_simp⟩) ?_; simp only [Act.put, List.getElem_toArray, List.getElem_cons_zero, List.getElem_cons_succ, List.setIfInBounds_toArray, List.set_cons_zero, List.set_cons_succ]
            refine wpAny_take (i := 10) (v := .bool true) rfl (by kernel_rfl) (by kernel_rfl) (by kernel_rfl) (fun _ _ _ h => h) (Or.inl ⟨by kernel_rfl, fun _ => by go_simp⟩) ?_; simp only [Act.put, List.getElem_toArray, List.getElem_cons_zero, List.getElem_cons_succ, List.setIfInBounds_toArray, List.set_cons_zero, List.set_cons_succ]
            refine wpAny_take (i := 11) (v := undef) rfl (by kernel_rfl) (by kernel_rfl) (by kernel_rfl) (fun _ _ _ h => h) (Or.inr ⟨by kernel_rfl, rfl⟩) ?_; simp only [Act.put, List.getElem_toArray, List.getElem_cons_zero, List.getElem_cons_succ, List.setIfInBounds_toArray, List.set_cons_zero, List.set_cons_succ]
            refine wpAny_take (i := 12) (v := undef) rfl (by kernel_rfl) (by kernel_rfl) (by kernel_rfl) (fun _ _ _ h => h) (Or.inr ⟨by kernel_rfl, rfl⟩) ?_; simp only [Act.put, List.getElem_toArray, List.getElem_cons_zero, List.getElem_cons_succ, List.setIfInBounds_toArray, List.set_cons_zero, List.set_cons_succ]
            refine wpAny_take (i := 13) (v := undef) rfl (by kernel_rfl) (by kernel_rfl) (by kernel_rfl) (fun _ _ _ h => h) (Or.inr ⟨by kernel_rfl, rfl⟩) ?_; simp only [Act.put, List.getElem_toArray, List.getElem_cons_zero, List.getElem_cons_succ, List.setIfInBounds_toArray, List.set_cons_zero, List.set_cons_succ]
            refine wpAny_take (i := 14) (v := undef) rfl (by kernel_rfl) (by kernel_rfl) (by kernel_rfl) (fun _ _ _ h => h) (Or.inr ⟨by kernel_rfl, rfl⟩) ?_; simp only [Act.put, List.getElem_toArray, List.getElem_cons_zero, List.getElem_cons_succ, List.setIfInBounds_toArray, List.set_cons_zero, List.set_cons_succ]
            refine wpAny_take (i := 15) (v := undef) rfl (by kernel_rfl) (by kernel_rfl) (by kernel_rfl) (fun _ _ _ h => h) (Or.inr ⟨by kernel_rfl, rfl⟩) ?_; simp only [Act.put, List.getElem_toArray, List.getElem_cons_zero, List.getElem_cons_succ, List.setIfInBounds_toArray, List.set_cons_zero, List.set_cons_succ]
            refine wpAny_take (i := 16) (v := undef) rfl (by kernel_rfl) (by kernel_rfl) (by kernel_rfl) (fun _ _ _ h => h) (Or.inr ⟨by kernel_rfl, rfl⟩) ?_; simp only [Act.put, List.getElem_toArray, List.getElem_cons_zero, List.getElem_cons_succ, List.setIfInBounds_toArray, List.set_cons_zero, List.set_cons_succ]
            refine wpAny_take (i := 17) (v := undef) rfl (by kernel_rfl) (by kernel_rfl) (by kernel_rfl) (fun _ _ _ h => h) (Or.inr ⟨by kernel_rfl, rfl⟩) ?_; simp only [Act.put, List.getElem_toArray, List.getElem_cons_zero, List.getElem_cons_succ, List.setIfInBounds_toArray, List.set_cons_zero, List.set_cons_succ]
            refine wpAny_take (i := 18) (v := undef) rfl (by kernel_rfl) (by kernel_rfl) (by kernel_rfl) (fun _ _ _ h => h) (Or.inr ⟨by kernel_rfl, rfl⟩) ?_; simp only [Act.put, List.getElem_toArray, List.getElem_cons_zero, List.getElem_cons_succ, List.setIfInBounds_toArray, List.set_cons_zero, List.set_cons_succ]
            refine wpAny_take (i := 19) (v := .bool true) rfl (by kernel_rfl) (by kernel_rfl) (by kernel_rfl) (fun _ _ _ h => h) (Or.inl ⟨by kernel_rfl, fun _ => by go_simp⟩) ?_; simp only [Act.put, List.getElem_toArray, List.getElem_cons_zero, List.getElem_cons_succ, List.setIfInBounds_toArray, List.set_cons_zero, List.set_cons_succ]
            refine wpAny_take (i := 20) (v := .bool true) rfl (by kernel_rfl) (by kernel_rfl) (by kernel_rfl) (fun _ _ _ h => h) (Or.inl ⟨by kernel_rfl, fun _ => by go_simp⟩) ?_; simp only [Act.put, List.getElem_toArray, List.getElem_cons_zero, List.getElem_cons_succ, List.setIfInBounds_toArray, List.set_cons_zero, List.set_cons_succ]
            refine wpAny_done (by kernel_rfl) ?_ _
            go_wp2
            go_meet
            case rel => exact ⟨by rw [hT.out], (h4.out.drew'.alloc' _).alloc' _⟩
      case rest =>
        obtain ⟨rfl, HS⟩ := hcut
        have h5 : Hid (St w b c3 p wc) := HS
        clear HS h4
        go_upto_if 62 with fail
        go_cut [] from 4 to 99 (fun wx => St w b (minCol c3 p) p wx)
        case first =>
          cases hT : takeMin c3 p
          · have hM : minCol c3 p = c3 := by unfold minCol; rw [hT]; rfl
            have HM : Hid (minCol c3 p = c3) := hM
            clear hM
            go_wp2
            go_meet
            case rel => rw [HM.out]; exact h5
          · have hM : minCol c3 p = { c3 with ik := p.ik, inn := p.inn, ist := p.ist } := by unfold minCol; rw [hT]; rfl
            have HM : Hid (minCol c3 p = { c3 with ik := p.ik, inn := p.inn, ist := p.ist }) := hM
            clear hM
            have i5 : wc.cell? ⟨b, 5, none⟩ = some (.int .u8 c3.ik) := h5.out.cell 5
            have g5 : wc.frozen? ⟨b, 5, none⟩ = false := h5.out.thaw 5
            have p5 : wc.cell? ⟨w.heap.size, 5, none⟩ = some (.int .u8 p.ik) := h5.out.pcell 5
            have i6 : wc.cell? ⟨b, 6, none⟩ = some (.float .f64 c3.inn) := h5.out.cell 6
            have g6 : wc.frozen? ⟨b, 6, none⟩ = false := h5.out.thaw 6
            have p6 : wc.cell? ⟨w.heap.size, 6, none⟩ = some (.float .f64 p.inn) := h5.out.pcell 6
            have i7 : wc.cell? ⟨b, 7, none⟩ = some (.string c3.ist) := h5.out.cell 7
            have g7 : wc.frozen? ⟨b, 7, none⟩ = false := h5.out.thaw 7
            have p7 : wc.cell? ⟨w.heap.size, 7, none⟩ = some (.string p.ist) := h5.out.pcell 7
            go_wp2
            go_meet
            case rel => rw [HM.out]; exact h5.out.setMin p.ik p.inn p.ist
        case rest =>
          have HS := hcut
          clear hcut h5
          obtain ⟨c4, HC4⟩ : ∃ c4, c4 = minCol c3 p := ⟨_, rfl⟩
          rw [← HC4] at HS
          have hc4 : Hid (c4 = minCol c3 p) := HC4
          have h6 : Hid (St w b c4 p wc) := HS
          clear HC4 HS
          go_upto_region 9 with fail
          go_cut [88] from 4 to 99 (fun t wx => t = .bool (takeMax c4 p) ∧ St w b c4 p wx)
          case first =>
            have hm : w.heap.size < wc.heap.size := h6.out.more
            have hbd : b < wc.heap.size := Nat.lt_trans hb hm
            have i8 : wc.cell? ⟨b, 8, none⟩ = some (.int .u8 c4.ak) := h6.out.cell 8
            have p8 : wc.cell? ⟨w.heap.size, 8, none⟩ = some (.int .u8 p.ak) := h6.out.pcell 8
            have i9 : wc.cell? ⟨b, 9, none⟩ = some (.float .f64 c4.an) := h6.out.cell 9
            have p9 : wc.cell? ⟨w.heap.size, 9, none⟩ = some (.float .f64 p.an) := h6.out.pcell 9
            have i10 : wc.cell? ⟨b, 10, none⟩ = some (.string c4.ast) := h6.out.cell 10
            have p10 : wc.cell? ⟨w.heap.size, 10, none⟩ = some (.string p.ast) := h6.out.pcell 10
            cases b0 : p.ak != 0
            · have hT : Hid (takeMax c4 p = false) := by unfold takeMax; rw [b0]; rfl
              have hk1 : Hid (∀ w', Calls Ybad.prog 18 #[.agg (V3 p.ak p.an p.ast)] w' fun e w'' => e = .returned (.bool false) ∧ w'' = w'.alloc (.cells (V3 p.ak p.an p.ast) 28)) := known_false b0
              refine wp_region_any (by kernel_rfl) ?_
              change wpAny _ _ _ _ _ _ _ (World.drew _)
              refine wpAny_take (i := 0) (v := .pointer (some ⟨w.heap.size, 8, none⟩)) rfl (by kernel_rfl) (by kernel_rfl) (by kernel_rfl) (fun _ _ _ h => h) (Or.inl ⟨by kernel_rfl, fun _ => by go_simp⟩) ?_; simp only [Act.put, List.getElem_toArray, List.getElem_cons_zero, List.getElem_cons_succ, List.setIfInBounds_toArray, List.set_cons_zero, List.set_cons_succ]
              refine wpAny_ready (rs := [1]) (by kernel_rfl) (by simp) (AllReady.cons rfl (fun K hK => ?_) AllReady.nil); go_simp; refine hK _ _ ?_; clear hK K
              refine wpAny_ready (rs := [2]) (by kernel_rfl) (by simp) (AllReady.cons rfl (fun K hK => ?_) AllReady.nil); go_simp; refine (hk1.out _).mono ?_; rintro e w' ⟨rfl, rfl⟩; dsimp only; refine hK _ _ ?_; clear hK K
              refine wpAny_take (i := 3) (v := .bool false) rfl (by kernel_rfl) (by kernel_rfl) (by kernel_rfl) (fun _ _ _ h => h) (Or.inl ⟨by kernel_rfl, fun _ => by go_simp⟩) ?_; simp only [Act.put, List.getElem_toArray, List.getElem_cons_zero, List.getElem_cons_succ, List.setIfInBounds_toArray, List.set_cons_zero, List.set_cons_succ]
              refine wpAny_take (i := 4) (v := undef) rfl (by kernel_rfl) (by kernel_rfl) (by kernel_rfl) (fun _ _ _ h => h) (Or.inr ⟨by kernel_rfl, rfl⟩) ?_; simp only [Act.put, List.getElem_toArray, List.getElem_cons_zero, List.getElem_cons_succ, List.setIfInBounds_toArray, List.set_cons_zero, List.set_cons_succ]
              refine wpAny_take (i := 5) (v := undef) rfl (by kernel_rfl) (by kernel_rfl) (by kernel_rfl) (fun _ _ _ h => h) (Or.inr ⟨by kernel_rfl, rfl⟩) ?_; simp only [Act.put, List.getElem_toArray, List.getElem_cons_zero, List.getElem_cons_succ, List.setIfInBounds_toArray, List.set_cons_zero, List.set_cons_succ]
              refine wpAny_take (i := 6) (v := undef) rfl (by kernel_rfl) (by kernel_rfl) (by kernel_rfl) (fun _ _ _ h => h) (Or.inr ⟨by kernel_rfl, rfl⟩) ?_; simp only [Act.put, List.getElem_toArray, List.getElem_cons_zero, List.getElem_cons_succ, List.setIfInBounds_toArray, List.set_cons_zero, List.set_cons_succ]
              refine wpAny_take (i := 7) (v := undef) rfl (by kernel_rfl) (by kernel_rfl) (by kernel_rfl) (fun _ _ _ h => h) (Or.inr ⟨by kernel_rfl, rfl⟩) ?_; simp only [Act.put, List.getElem_toArray, List.getElem_cons_zero, List.getElem_cons_succ, List.setIfInBounds_toArray, List.set_cons_zero, List.set_cons_succ]
              refine wpAny_take (i := 8) (v := undef) rfl (by kernel_rfl) (by kernel_rfl) (by kernel_rfl) (fun _ _ _ h => h) (Or.inr ⟨by kernel_rfl, rfl⟩) ?_; simp only [Act.put, List.getElem_toArray, List.getElem_cons_zero, List.getElem_cons_succ, List.setIfInBounds_toArray, List.set_cons_zero, List.set_cons_succ]
              refine wpAny_take (i := 9) (v := undef) rfl (by kernel_rfl) (by kernel_rfl) (by kernel_rfl) (fun _ _ _ h => h) (Or.inr ⟨by kernel_rfl, rfl⟩) ?_; simp only [Act.put, List.getElem_toArray, List.getElem_cons_zero, List.getElem_cons_succ, List.setIfInBounds_toArray, List.set_cons_zero, List.set_cons_succ]
              refine wpAny_take (i := 10) (v := undef) rfl (by kernel_rfl) (by kernel_rfl) (by kernel_rfl) (fun _ _ _ h => h) (Or.inr ⟨by kernel_rfl, rfl⟩) ?_; simp only [Act.put, List.getElem_toArray, List.getElem_cons_zero, List.getElem_cons_succ, List.setIfInBounds_toArray, List.set_cons_zero, List.set_cons_succ]
              refine wpAny_take (i := 11) (v := undef) rfl (by kernel_rfl) (by kernel_rfl) (by kernel_rfl) (fun _ _ _ h => h) (Or.inr ⟨by kernel_rfl, rfl⟩) ?_; simp only [Act.put, List.getElem_toArray, List.getElem_cons_zero, List.getElem_cons_succ, List.setIfInBounds_toArray, List.set_cons_zero, List.set_cons_succ]
              refine wpAny_take (i := 12) (v := undef) rfl (by kernel_rfl) (by kernel_rfl) (by kernel_rfl) (fun _ _ _ h => h) (Or.inr ⟨by kernel_rfl, rfl⟩) ?_; simp only [Act.put, List.getElem_toArray, List.getElem_cons_zero, List.getElem_cons_succ, List.setIfInBounds_toArray, List.set_cons_zero, List.set_cons_succ]
              refine wpAny_take (i := 13) (v := undef) rfl (by kernel_rfl) (by kernel_rfl) (by kernel_rfl) (fun _ _ _ h => h) (Or.inr ⟨by kernel_rfl, rfl⟩) ?_; simp only [Act.put, List.getElem_toArray, List.getElem_cons_zero, List.getElem_cons_succ, List.setIfInBounds_toArray, List.set_cons_zero, List.set_cons_succ]
              refine wpAny_take (i := 14) (v := undef) rfl (by kernel_rfl) (by kernel_rfl) (by kernel_rfl) (fun _ _ _ h => h) (Or.inr ⟨by kernel_rfl, rfl⟩) ?_; simp only [Act.put, List.getElem_toArray, List.getElem_cons_zero, List.getElem_cons_succ, List.setIfInBounds_toArray, List.set_cons_zero, List.set_cons_succ]
              refine wpAny_take (i := 15) (v := undef) rfl (by kernel_rfl) (by kernel_rfl) (by kernel_rfl) (fun _ _ _ h => h) (Or.inr ⟨by kernel_rfl, rfl⟩) ?_; simp only [Act.put, List.getElem_toArray, List.getElem_cons_zero, List.getElem_cons_succ, List.setIfInBounds_toArray, List.set_cons_zero, List.set_cons_succ]
              refine wpAny_take (i := 16) (v := undef) rfl (by kernel_rfl) (by kernel_rfl) (by kernel_rfl) (fun _ _ _ h => h) (Or.inr ⟨by kernel_rfl, rfl⟩) ?_; simp only [Act.put, List.getElem_toArray, List.getElem_cons_zero, List.getElem_cons_succ, List.setIfInBounds_toArray, List.set_cons_zero, List.set_cons_succ]
              refine wpAny_take (i := 17) (v := undef) rfl (by kernel_rfl) (by kernel_rfl) (by kernel_rfl) (fun _ _ _ h => h) (Or.inr ⟨by kernel_rfl, rfl⟩) ?_; simp only [Act.put, List.getElem_toArray, List.getElem_cons_zero, List.getElem_cons_succ, List.setIfInBounds_toArray, List.set_cons_zero, List.set_cons_succ]
              refine wpAny_take (i := 18) (v := undef) rfl (by kernel_rfl) (by kernel_rfl) (by kernel_rfl) (fun _ _ _ h => h) (Or.inr ⟨by kernel_rfl, rfl⟩) ?_; simp only [Act.put, List.getElem_toArray, List.getElem_cons_zero, List.getElem_cons_succ, List.setIfInBounds_toArray, List.set_cons_zero, List.set_cons_succ]
              refine wpAny_take (i := 19) (v := undef) rfl (by kernel_rfl) (by kernel_rfl) (by kernel_rfl) (fun _ _ _ h => h) (Or.inr ⟨by kernel_rfl, rfl⟩) ?_; simp only [Act.put, List.getElem_toArray, List.getElem_cons_zero, List.getElem_cons_succ, List.setIfInBounds_toArray, List.set_cons_zero, List.set_cons_succ]
              refine wpAny_take (i := 20) (v := .bool false) rfl (by kernel_rfl) (by kernel_rfl) (by kernel_rfl) (fun _ _ _ h => h) (Or.inl ⟨by kernel_rfl, fun _ => by go_simp⟩) ?_; simp only [Act.put, List.getElem_toArray, List.getElem_cons_zero, List.getElem_cons_succ, List.setIfInBounds_toArray, List.set_cons_zero, List.set_cons_succ]
              refine wpAny_done (by kernel_rfl) ?_ _
              go_wp2
              go_meet
              case rel => exact ⟨by rw [hT.out], h6.out.drew'.alloc' _⟩
            · cases b1 : c4.ak == 0
              · have hT : Hid (takeMax c4 p = decide (cmpV p.ak p.an p.ast c4.an c4.ast < 0)) := by unfold takeMax; rw [b0, b1]; rfl
                have b2 : (c4.ak != 0) = true := by simpa [bne] using b1
                have hk1 : Hid (∀ w', Calls Ybad.prog 18 #[.agg (V3 p.ak p.an p.ast)] w' fun e w'' => e = .returned (.bool true) ∧ w'' = w'.alloc (.cells (V3 p.ak p.an p.ast) 28)) := known_true b0
                have hk2 : Hid (∀ w', Calls Ybad.prog 18 #[.agg (V3 c4.ak c4.an c4.ast)] w' fun e w'' => e = .returned (.bool true) ∧ w'' = w'.alloc (.cells (V3 c4.ak c4.an c4.ast) 28)) := known_true b2
                refine wp_region_any (by kernel_rfl) ?_
                change wpAny _ _ _ _ _ _ _ (World.drew _)
                refine wpAny_take (i := 0) (v := .pointer (some ⟨w.heap.size, 8, none⟩)) rfl (by kernel_rfl) (by kernel_rfl) (by kernel_rfl) (fun _ _ _ h => h) (Or.inl ⟨by kernel_rfl, fun _ => by go_simp⟩) ?_; simp only [Act.put, List.getElem_toArray, List.getElem_cons_zero, List.getElem_cons_succ, List.setIfInBounds_toArray, List.set_cons_zero, List.set_cons_succ]
                refine wpAny_ready (rs := [1]) (by kernel_rfl) (by simp) (AllReady.cons rfl (fun K hK => ?_) AllReady.nil); go_simp; refine hK _ _ ?_; clear hK K
                refine wpAny_ready (rs := [2]) (by kernel_rfl) (by simp) (AllReady.cons rfl (fun K hK => ?_) AllReady.nil); go_simp; refine (hk1.out _).mono ?_; rintro e w' ⟨rfl, rfl⟩; dsimp only; refine hK _ _ ?_; clear hK K
                refine wpAny_take (i := 3) (v := .bool true) rfl (by kernel_rfl) (by kernel_rfl) (by kernel_rfl) (fun _ _ _ h => h) (Or.inl ⟨by kernel_rfl, fun _ => by go_simp⟩) ?_; simp only [Act.put, List.getElem_toArray, List.getElem_cons_zero, List.getElem_cons_succ, List.setIfInBounds_toArray, List.set_cons_zero, List.set_cons_succ]
                refine wpAny_take (i := 4) (v := .pointer (some ⟨b, 0, none⟩)) rfl (by kernel_rfl) (by kernel_rfl) (by kernel_rfl) (fun _ _ _ h => h) (Or.inl ⟨by kernel_rfl, fun _ => by go_simp⟩) ?_; simp only [Act.put, List.getElem_toArray, List.getElem_cons_zero, List.getElem_cons_succ, List.setIfInBounds_toArray, List.set_cons_zero, List.set_cons_succ]
                refine wpAny_take (i := 5) (v := .pointer (some ⟨b, 0, none⟩)) rfl (by kernel_rfl) (by kernel_rfl) (by kernel_rfl) (fun _ _ _ h => h) (Or.inl ⟨by kernel_rfl, fun _ => by go_simp⟩) ?_; simp only [Act.put, List.getElem_toArray, List.getElem_cons_zero, List.getElem_cons_succ, List.setIfInBounds_toArray, List.set_cons_zero, List.set_cons_succ]
                refine wpAny_take (i := 6) (v := .pointer (some ⟨b, 8, none⟩)) rfl (by kernel_rfl) (by kernel_rfl) (by kernel_rfl) (fun _ _ _ h => h) (Or.inl ⟨by kernel_rfl, fun _ => by go_simp⟩) ?_; simp only [Act.put, List.getElem_toArray, List.getElem_cons_zero, List.getElem_cons_succ, List.setIfInBounds_toArray, List.set_cons_zero, List.set_cons_succ]
                refine wpAny_ready (rs := [7]) (by kernel_rfl) (by simp) (AllReady.cons rfl (fun K hK => ?_) AllReady.nil); go_simp; refine hK _ _ ?_; clear hK K
                refine wpAny_ready (rs := [8]) (by kernel_rfl) (by simp) (AllReady.cons rfl (fun K hK => ?_) AllReady.nil); go_simp; refine (hk2.out _).mono ?_; rintro e w' ⟨rfl, rfl⟩; dsimp only; refine hK _ _ ?_; clear hK K
                refine wpAny_take (i := 9) (v := .bool false) rfl (by kernel_rfl) (by kernel_rfl) (by kernel_rfl) (fun _ _ _ h => h) (Or.inl ⟨by kernel_rfl, fun _ => by go_simp⟩) ?_; simp only [Act.put, List.getElem_toArray, List.getElem_cons_zero, List.getElem_cons_succ, List.setIfInBounds_toArray, List.set_cons_zero, List.set_cons_succ]
                refine wpAny_take (i := 10) (v := .bool false) rfl (by kernel_rfl) (by kernel_rfl) (by kernel_rfl) (fun _ _ _ h => h) (Or.inl ⟨by kernel_rfl, fun _ => by go_simp⟩) ?_; simp only [Act.put, List.getElem_toArray, List.getElem_cons_zero, List.getElem_cons_succ, List.setIfInBounds_toArray, List.set_cons_zero, List.set_cons_succ]
                refine wpAny_take (i := 11) (v := .pointer (some ⟨w.heap.size, 8, none⟩)) rfl (by kernel_rfl) (by kernel_rfl) (by kernel_rfl) (fun _ _ _ h => h) (Or.inl ⟨by kernel_rfl, fun _ => by go_simp⟩) ?_; simp only [Act.put, List.getElem_toArray, List.getElem_cons_zero, List.getElem_cons_succ, List.setIfInBounds_toArray, List.set_cons_zero, List.set_cons_succ]
                refine wpAny_take (i := 13) (v := .pointer (some ⟨b, 0, none⟩)) rfl (by kernel_rfl) (by kernel_rfl) (by kernel_rfl) (fun _ _ _ h => h) (Or.inl ⟨by kernel_rfl, fun _ => by go_simp⟩) ?_; simp only [Act.put, List.getElem_toArray, List.getElem_cons_zero, List.getElem_cons_succ, List.setIfInBounds_toArray, List.set_cons_zero, List.set_cons_succ]
                refine wpAny_take (i := 14) (v := .pointer (some ⟨b, 0, none⟩)) rfl (by kernel_rfl) (by kernel_rfl) (by kernel_rfl) (fun _ _ _ h => h) (Or.inl ⟨by kernel_rfl, fun _ => by go_simp⟩) ?_; simp only [Act.put, List.getElem_toArray, List.getElem_cons_zero, List.getElem_cons_succ, List.setIfInBounds_toArray, List.set_cons_zero, List.set_cons_succ]
                refine wpAny_take (i := 15) (v := .pointer (some ⟨b, 8, none⟩)) rfl (by kernel_rfl) (by kernel_rfl) (by kernel_rfl) (fun _ _ _ h => h) (Or.inl ⟨by kernel_rfl, fun _ => by go_simp⟩) ?_; simp only [Act.put, List.getElem_toArray, List.getElem_cons_zero, List.getElem_cons_succ, List.setIfInBounds_toArray, List.set_cons_zero, List.set_cons_succ]
                refine wpAny_ready (rs := [12, 16]) (by kernel_rfl) (by simp) (AllReady.cons rfl (fun K hK => ?_) (AllReady.cons rfl (fun K hK => ?_) AllReady.nil))
                · go_simp; refine hK _ _ ?_; clear hK K
                  refine wpAny_ready (rs := [16]) (by kernel_rfl) (by simp) (AllReady.cons rfl (fun K hK => ?_) AllReady.nil); go_simp; refine hK _ _ ?_; clear hK K
                  refine wpAny_ready (rs := [17]) (by kernel_rfl) (by simp) (AllReady.cons rfl (fun K hK => ?_) AllReady.nil); go_simp; refine (compareValues_any p.ak p.an p.ast c4.ak c4.an c4.ast _).mono ?_; rintro e w1 ⟨rfl, hb1⟩; dsimp only; refine hK _ _ ?_; clear hK K
                  refine wpAny_take (i := 18) (v := .bool (decide (cmpV p.ak p.an p.ast c4.an c4.ast < 0))) rfl (by kernel_rfl) (by kernel_rfl) (by kernel_rfl) (fun _ _ _ h => h) (Or.inl ⟨by kernel_rfl, fun _ => by go_simp⟩) ?_; simp only [Act.put, List.getElem_toArray, List.getElem_cons_zero, List.getElem_cons_succ, List.setIfInBounds_toArray, List.set_cons_zero, List.set_cons_succ]
                  refine wpAny_take (i := 19) (v := .bool (decide (cmpV p.ak p.an p.ast c4.an c4.ast < 0))) rfl (by kernel_rfl) (by kernel_rfl) (by kernel_rfl) (fun _ _ _ h => h) (Or.inl ⟨by kernel_rfl, fun _ => by go_simp⟩) ?_; simp only [Act.put, List.getElem_toArray, List.getElem_cons_zero, List.getElem_cons_succ, List.setIfInBounds_toArray, List.set_cons_zero, List.set_cons_succ]
                  refine wpAny_take (i := 20) (v := .bool (decide (cmpV p.ak p.an p.ast c4.an c4.ast < 0))) rfl (by kernel_rfl) (by kernel_rfl) (by kernel_rfl) (fun _ _ _ h => h) (Or.inl ⟨by kernel_rfl, fun _ => by go_simp⟩) ?_; simp only [Act.put, List.getElem_toArray, List.getElem_cons_zero, List.getElem_cons_succ, List.setIfInBounds_toArray, List.set_cons_zero, List.set_cons_succ]
                  refine wpAny_done (by kernel_rfl) ?_ _
                  go_wp2
                  go_meet
                  case rel => exact ⟨by rw [hT.out], ((h6.out.drew'.alloc' _).alloc' _).below' hb1⟩
                · go_simp; refine hK _ _ ?_; clear hK K
                  refine wpAny_ready (rs := [12]) (by kernel_rfl) (by simp) (AllReady.cons rfl (fun K hK => ?_) AllReady.nil); go_simp; refine hK _ _ ?_; clear hK K
                  refine wpAny_ready (rs := [17]) (by kernel_rfl) (by simp) (AllReady.cons rfl (fun K hK => ?_) AllReady.nil); go_simp; refine (compareValues_any p.ak p.an p.ast c4.ak c4.an c4.ast _).mono ?_; rintro e w1 ⟨rfl, hb1⟩; dsimp only; refine hK _ _ ?_; clear hK K
                  refine wpAny_take (i := 18) (v := .bool (decide (cmpV p.ak p.an p.ast c4.an c4.ast < 0))) rfl (by kernel_rfl) (by kernel_rfl) (by kernel_rfl) (fun _ _ _ h => h) (Or.inl ⟨by kernel_rfl, fun _ => by go_simp⟩) ?_; simp only [Act.put, List.getElem_toArray, List.getElem_cons_zero, List.getElem_cons_succ, List.setIfInBounds_toArray, List.set_cons_zero, List.set_cons_succ]
                  refine wpAny_take (i := 19) (v := .bool (decide (cmpV p.ak p.an p.ast c4.an c4.ast < 0))) rfl (by kernel_rfl) (by kernel_rfl) (by kernel_rfl) (fun _ _ _ h => h) (Or.inl ⟨by kernel_rfl, fun _ => by go_simp⟩) ?_; simp only [Act.put, List.getElem_toArray, List.getElem_cons_zero, List.getElem_cons_succ, List.setIfInBounds_toArray, List.set_cons_zero, List.set_cons_succ]
                  refine wpAny_take (i := 20) (v := .bool (decide (cmpV p.ak p.an p.ast c4.an c4.ast < 0))) rfl (by kernel_rfl) (by kernel_rfl) (by kernel_rfl) (fun _ _ _ h => h) (Or.inl ⟨by kernel_rfl, fun _ => by go_simp⟩) ?_; simp only [Act.put, List.getElem_toArray, List.getElem_cons_zero, List.getElem_cons_succ, List.setIfInBounds_toArray, List.set_cons_zero, List.set_cons_succ]
                  refine wpAny_done (by kernel_rfl) ?_ _
                  go_wp2
                  go_meet
                  case rel => exact ⟨by rw [hT.out], ((h6.out.drew'.alloc' _).alloc' _).below' hb1⟩
              · have hT : Hid (takeMax c4 p = true) := by unfold takeMax; rw [b0, b1]; rfl
                have b2 : (c4.ak != 0) = false := by simpa [bne] using b1
                have hk1 : Hid (∀ w', Calls Ybad.prog 18 #[.agg (V3 p.ak p.an p.ast)] w' fun e w'' => e = .returned (.bool true) ∧ w'' = w'.alloc (.cells (V3 p.ak p.an p.ast) 28)) := known_true b0
                have hk2 : Hid (∀ w', Calls Ybad.prog 18 #[.agg (V3 c4.ak c4.an c4.ast)] w' fun e w'' => e = .returned (.bool false) ∧ w'' = w'.alloc (.cells (V3 c4.ak c4.an c4.ast) 28)) := known_false b2
                refine wp_region_any (by kernel_rfl) ?_
                change wpAny _ _ _ _ _ _ _ (World.drew _)
                refine wpAny_take (i := 0) (v := .pointer (some ⟨w.heap.size, 8, none⟩)) rfl (by kernel_rfl) (by kernel_rfl) (by kernel_rfl) (fun _ _ _ h => h) (Or.inl ⟨by kernel_rfl, fun _ => by go_simp⟩) ?_; simp only [Act.put, List.getElem_toArray, List.getElem_cons_zero, List.getElem_cons_succ, List.setIfInBounds_toArray, List.set_cons_zero, List.set_cons_succ]
                refine wpAny_ready (rs := [1]) (by kernel_rfl) (by simp) (AllReady.cons rfl (fun K hK => ?_) AllReady.nil); go_simp; refine hK _ _ ?_; clear hK K
                refine wpAny_ready (rs := [2]) (by kernel_rfl) (by simp) (AllReady.cons rfl (fun K hK => ?_) AllReady.nil); go_simp; refine (hk1.out _).mono ?_; rintro e w' ⟨rfl, rfl⟩; dsimp only; refine hK _ _ ?_; clear hK K
                refine wpAny_take (i := 3) (v := .bool true) rfl (by kernel_rfl) (by kernel_rfl) (by kernel_rfl) (fun _ _ _ h => h) (Or.inl ⟨by kernel_rfl, fun _ => by go_simp⟩) ?_; simp only [Act.put, List.getElem_toArray, List.getElem_cons_zero, List.getElem_cons_succ, List.setIfInBounds_toArray, List.set_cons_zero, List.set_cons_succ]
                refine wpAny_take (i := 4) (v := .pointer (some ⟨b, 0, none⟩)) rfl (by kernel_rfl) (by kernel_rfl) (by kernel_rfl) (fun _ _ _ h => h) (Or.inl ⟨by kernel_rfl, fun _ => by go_simp⟩) ?_; simp only [Act.put, List.getElem_toArray, List.getElem_cons_zero, List.getElem_cons_succ, List.setIfInBounds_toArray, List.set_cons_zero, List.set_cons_succ]
                refine wpAny_take (i := 5) (v := .pointer (some ⟨b, 0, none⟩)) rfl (by kernel_rfl) (by kernel_rfl) (by kernel_rfl) (fun _ _ _ h => h) (Or.inl ⟨by kernel_rfl, fun _ => by go_simp⟩) ?_; simp only [Act.put, List.getElem_toArray, List.getElem_cons_zero, List.getElem_cons_succ, List.setIfInBounds_toArray, List.set_cons_zero, List.set_cons_succ]
                refine wpAny_take (i := 6) (v := .pointer (some ⟨b, 8, none⟩)) rfl (by kernel_rfl) (by kernel_rfl) (by kernel_rfl) (fun _ _ _ h => h) (Or.inl ⟨by kernel_rfl, fun _ => by go_simp⟩) ?_; simp only [Act.put, List.getElem_toArray, List.getElem_cons_zero, List.getElem_cons_succ, List.setIfInBounds_toArray, List.set_cons_zero, List.set_cons_succ]
                refine wpAny_ready (rs := [7]) (by kernel_rfl) (by simp) (AllReady.cons rfl (fun K hK => ?_) AllReady.nil); go_simp; refine hK _ _ ?_; clear hK K
                refine wpAny_ready (rs := [8]) (by kernel_rfl) (by simp) (AllReady.cons rfl (fun K hK => ?_) AllReady.nil); go_simp; refine (hk2.out _).mono ?_; rintro e w' ⟨rfl, rfl⟩; dsimp only; refine hK _ _ ?_; clear hK K
                refine wpAny_take (i := 9) (v := .bool true) rfl (by kernel_rfl) (by kernel_rfl) (by kernel_rfl) (fun _ _ _ h => h) (Or.inl ⟨by kernel_rfl, fun _ => by go_simp⟩) ?_; simp only [Act.put, List.getElem_toArray, List.getElem_cons_zero, List.getElem_cons_succ, List.setIfInBounds_toArray, List.set_cons_zero, List.set_cons_succ]
                refine wpAny_take (i := 10) (v := .bool true) rfl (by kernel_rfl) (by kernel_rfl) (by kernel_rfl) (fun _ _ _ h => h) (Or.inl ⟨by kernel_rfl, fun _ => by go_simp⟩) ?_; simp only [Act.put, List.getElem_toArray, List.getElem_cons_zero, List.getElem_cons_succ, List.setIfInBounds_toArray, List.set_cons_zero, List.set_cons_succ]
                refine wpAny_take (i := 11) (v := undef) rfl (by kernel_rfl) (by kernel_rfl) (by kernel_rfl) (fun _ _ _ h => h) (Or.inr ⟨by kernel_rfl, rfl⟩) ?_; simp only [Act.put, List.getElem_toArray, List.getElem_cons_zero, List.getElem_cons_succ, List.setIfInBounds_toArray, List.set_cons_zero, List.set_cons_succ]
                refine wpAny_take (i := 12) (v := undef) rfl (by kernel_rfl) (by kernel_rfl) (by kernel_rfl) (fun _ _ _ h => h) (Or.inr ⟨by kernel_rfl, rfl⟩) ?_; simp only [Act.put, List.getElem_toArray, List.getElem_cons_zero, List.getElem_cons_succ, List.setIfInBounds_toArray, List.set_cons_zero, List.set_cons_succ]
                refine wpAny_take (i := 13) (v := undef) rfl (by kernel_rfl) (by kernel_rfl) (by kernel_rfl) (fun _ _ _ h => h) (Or.inr ⟨by kernel_rfl, rfl⟩) ?_; simp only [Act.put, List.getElem_toArray, List.getElem_cons_zero, List.getElem_cons_succ, List.setIfInBounds_toArray, List.set_cons_zero, List.set_cons_succ]
                refine wpAny_take (i := 14) (v := undef) rfl (by kernel_rfl) (by kernel_rfl) (by kernel_rfl) (fun _ _ _ h => h) (Or.inr ⟨by kernel_rfl, rfl⟩) ?_; simp only [Act.put, List.getElem_toArray, List.getElem_cons_zero, List.getElem_cons_succ, List.setIfInBounds_toArray, List.set_cons_zero, List.set_cons_succ]
                refine wpAny_take (i := 15) (v := undef) rfl (by kernel_rfl) (by kernel_rfl) (by kernel_rfl) (fun _ _ _ h => h) (Or.inr ⟨by kernel_rfl, rfl⟩) ?_; simp only [Act.put, List.getElem_toArray, List.getElem_cons_zero, List.getElem_cons_succ, List.setIfInBounds_toArray, List.set_cons_zero, List.set_cons_succ]
                refine wpAny_take (i := 16) (v := undef) rfl (by kernel_rfl) (by kernel_rfl) (by kernel_rfl) (fun _ _ _ h => h) (Or.inr ⟨by kernel_rfl, rfl⟩) ?_; simp only [Act.put, List.getElem_toArray, List.getElem_cons_zero, List.getElem_cons_succ, List.setIfInBounds_toArray, List.set_cons_zero, List.set_cons_succ]
                refine wpAny_take (i := 17) (v := undef) rfl (by kernel_rfl) (by kernel_rfl) (by kernel_rfl) (fun _ _ _ h => h) (Or.inr ⟨by kernel_rfl, rfl⟩) ?_; simp only [Act.put, List.getElem_toArray, List.getElem_cons_zero, List.getElem_cons_succ, List.setIfInBounds_toArray, List.set_cons_zero, List.set_cons_succ]
                refine wpAny_take (i := 18) (v := undef) rfl (by kernel_rfl) (by kernel_rfl) (by kernel_rfl) (fun _ _ _ h => h) (Or.inr ⟨by kernel_rfl, rfl⟩) ?_; simp only [Act.put, List.getElem_toArray, List.getElem_cons_zero, List.getElem_cons_succ, List.setIfInBounds_toArray, List.set_cons_zero, List.set_cons_succ]
                refine wpAny_take (i := 19) (v := .bool true) rfl (by kernel_rfl) (by kernel_rfl) (by kernel_rfl) (fun _ _ _ h => h) (Or.inl ⟨by kernel_rfl, fun _ => by go_simp⟩) ?_; simp only [Act.put, List.getElem_toArray, List.getElem_cons_zero, List.getElem_cons_succ, List.setIfInBounds_toArray, List.set_cons_zero, List.set_cons_succ]
                refine wpAny_take (i := 20) (v := .bool true) rfl (by kernel_rfl) (by kernel_rfl) (by kernel_rfl) (fun _ _ _ h => h) (Or.inl ⟨by kernel_rfl, fun _ => by go_simp⟩) ?_; simp only [Act.put, List.getElem_toArray, List.getElem_cons_zero, List.getElem_cons_succ, List.setIfInBounds_toArray, List.set_cons_zero, List.set_cons_succ]
                refine wpAny_done (by kernel_rfl) ?_ _
                go_wp2
                go_meet
                case rel => exact ⟨by rw [hT.out], (h6.out.drew'.alloc' _).alloc' _⟩
          case rest =>
            obtain ⟨rfl, HS⟩ := hcut
            have h7 : Hid (St w b c4 p wc) := HS
            clear HS h6
            go_upto_if 88 with fail
            go_cut [] from 4 to 99 (fun wx => St w b (maxCol c4 p) p wx)
            case first =>
              cases hT : takeMax c4 p
              · have hM : maxCol c4 p = c4 := by unfold maxCol; rw [hT]; rfl
                have HM : Hid (maxCol c4 p = c4) := hM
                clear hM
                go_wp2
                go_meet
                case rel => rw [HM.out]; exact h7
              · have hM : maxCol c4 p = { c4 with ak := p.ak, an := p.an, ast := p.ast } := by unfold maxCol; rw [hT]; rfl
                have HM : Hid (maxCol c4 p = { c4 with ak := p.ak, an := p.an, ast := p.ast }) := hM
                clear hM
                have i8 : wc.cell? ⟨b, 8, none⟩ = some (.int .u8 c4.ak) := h7.out.cell 8
                have g8 : wc.frozen? ⟨b, 8, none⟩ = false := h7.out.thaw 8
                have p8 : wc.cell? ⟨w.heap.size, 8, none⟩ = some (.int .u8 p.ak) := h7.out.pcell 8
                have i9 : wc.cell? ⟨b, 9, none⟩ = some (.float .f64 c4.an) := h7.out.cell 9
                have g9 : wc.frozen? ⟨b, 9, none⟩ = false := h7.out.thaw 9
                have p9 : wc.cell? ⟨w.heap.size, 9, none⟩ = some (.float .f64 p.an) := h7.out.pcell 9
                have i10 : wc.cell? ⟨b, 10, none⟩ = some (.string c4.ast) := h7.out.cell 10
                have g10 : wc.frozen? ⟨b, 10, none⟩ = false := h7.out.thaw 10
                have p10 : wc.cell? ⟨w.heap.size, 10, none⟩ = some (.string p.ast) := h7.out.pcell 10
                go_wp2
                go_meet
                case rel => rw [HM.out]; exact h7.out.setMax p.ak p.an p.ast
            case rest =>
              have HS := hcut
              clear hcut h7
              obtain ⟨c5, HC5⟩ : ∃ c5, c5 = maxCol c4 p := ⟨_, rfl⟩
              rw [← HC5] at HS
              have hc5 : Hid (c5 = maxCol c4 p) := HC5
              have h8 : Hid (St w b c5 p wc) := HS
              clear HC5 HS
              have q13 : wc.cell? ⟨b, 13, none⟩ = some (.slice c5.ma c5.ml c5.mc) := h8.out.cell 13
              have q14 : wc.cell? ⟨b, 14, none⟩ = some (.slice c5.ha c5.hl c5.hc) := h8.out.cell 14
              have g13 : wc.frozen? ⟨b, 13, none⟩ = false := h8.out.thaw 13
              have g14 : wc.frozen? ⟨b, 14, none⟩ = false := h8.out.thaw 14
              have HF : Hid (narrowed c1 p ndv has = { c5 with ma := none, ml := 0, mc := 0, ha := none, hl := 0, hc := 0 }) := by
                show _ = _
                rw [hc5.out, hc4.out, hc3.out, hc2.out]; rfl
              go_wp2
              go_end0
              exact ⟨rfl, c1, ndv, has, hc1, HN, by rw [HF.out]; exact h8.out.setLists.nar⟩
end Go.Proofs.YbulkbspoDoor
