/-
  The walk of 'LawS3459BMeet' (function 4).
-/
import Derived.Test.YbulkbspoDoorMeetLaw
import Derived.Test.YbulkbspoDoorRules
import Derived.Test.YbulkbspoDoorCols
import Derived.Deep.WholeRow
import Derived.Deep.RegionHeld3
namespace Go.Proofs.YbulkbspoDoor
open Go.RowKit
set_option linter.unusedSimpArgs false
attribute [local go_sem] alloc_drewN setCell_drewN run_store_float

theorem info24 (s : Side) : (Ybad.prog.info? 24).map (·.size) = some s.cells.size := by kernel_rfl
theorem colAll (c : Col) : c.cells.all (·.oneCell') = true := by kernel_rfl

/-- Any of the four bounds is a NaN: the law lets it by. -/
theorem meet_nan (sa sb : Side) (x1 x2 x3 x4 : Nat) (w : World) (h : nanB x1 = true ∨ nanB x2 = true ∨ nanB x3 = true ∨ nanB x4 = true) :
    Calls Ybad.prog 4 #[.agg sa.cells, .agg sb.cells, .float .f64 x1, .float .f64 x2, .float .f64 x3, .float .f64 x4] w fun e w' => e = .returned (.bool true) ∧ Below w.heap.size w w' := by
  have e1 := nan_neq x1
  have e2 := nan_neq x2
  have e3 := nan_neq x3
  have e4 := nan_neq x4
  cases n1 : nanB x1
  · cases n2 : nanB x2
    · cases n3 : nanB x3
      · have n4 : nanB x4 = true := by simpa [n1, n2, n3] using h
        clear h
        rw [n1] at e1; rw [n2] at e2; rw [n3] at e3; rw [n4] at e4
        go_enter Ybad.func4, Ybad.ntmps4
        go_wp2
        go_ret
        exact ⟨rfl, ((Below.refl _ _).alloc (Nat.le_refl _) _).alloc (by simp) _⟩
      · clear h
        rw [n1] at e1; rw [n2] at e2; rw [n3] at e3
        go_enter Ybad.func4, Ybad.ntmps4
        go_wp2
        go_ret
        exact ⟨rfl, ((Below.refl _ _).alloc (Nat.le_refl _) _).alloc (by simp) _⟩
    · clear h
      rw [n1] at e1; rw [n2] at e2
      go_enter Ybad.func4, Ybad.ntmps4
      go_wp2
      go_ret
      exact ⟨rfl, ((Below.refl _ _).alloc (Nat.le_refl _) _).alloc (by simp) _⟩
  · clear h
    rw [n1] at e1
    go_enter Ybad.func4, Ybad.ntmps4
    go_wp2
    go_ret
    exact ⟨rfl, ((Below.refl _ _).alloc (Nat.le_refl _) _).alloc (by simp) _⟩

/-- THE STATE BEHIND THE TWO COLUMNS' MAKING. -/
structure Mt (w : World) (l r : Nat) (cl cr : Col) (w' : World) : Prop where
  bel : Below w.heap.size w w'
  gl : w.heap.size ≤ l
  gr : w.heap.size ≤ r
  ne : l ≠ r
  ll : l < w'.heap.size
  lr : r < w'.heap.size
  hl : w'.heap[l]? = some (.cells cl.cells 32)
  hr : w'.heap[r]? = some (.cells cr.cells 32)

theorem Mt.below' {w : World} {l r : Nat} {cl cr : Col} {w' w1 : World} (h : Mt w l r cl cr w') (k : Below w'.heap.size w' w1) : Mt w l r cl cr w1 :=
  ⟨h.bel.trans (k.mono h.bel.size), h.gl, h.gr, h.ne, Nat.lt_of_lt_of_le h.ll k.size, Nat.lt_of_lt_of_le h.lr k.size, by rw [k.block _ h.ll]; exact h.hl, by rw [k.block _ h.lr]; exact h.hr⟩
theorem Mt.drewN' {w : World} {l r : Nat} {cl cr : Col} {w' : World} (h : Mt w l r cl cr w') (n : Nat) : Mt w l r cl cr (w'.drewN n) := h.below' (below_drewN (Below.refl _ _) n)
theorem Mt.drew' {w : World} {l r : Nat} {cl cr : Col} {w' : World} (h : Mt w l r cl cr w') : Mt w l r cl cr w'.drew := h.drewN' 1
theorem Mt.alloc' {w : World} {l r : Nat} {cl cr : Col} {w' : World} (h : Mt w l r cl cr w') (o : Obj) : Mt w l r cl cr (w'.alloc o) := h.below' ((Below.refl _ _).alloc (Nat.le_refl _) o)
theorem Mt.sym {w : World} {l r : Nat} {cl cr : Col} {w' : World} (h : Mt w l r cl cr w') : Mt w r l cr cl w' := ⟨h.bel, h.gr, h.gl, fun e => h.ne e.symm, h.lr, h.ll, h.hr, h.hl⟩
/-- A store into the left column. -/
theorem Mt.set' {w : World} {l r : Nat} {cl cr cl' : Col} {w' : World} (h : Mt w l r cl cr w') (i : Nat) (v : Value) (hc : cl.cells.setIfInBounds i v = cl'.cells) : Mt w l r cl' cr (w'.setCell ⟨l, i, none⟩ v) := by
  have hs : (w'.setCell ⟨l, i, none⟩ v).heap.size = w'.heap.size := by simp [World.setCell]
  refine ⟨h.bel.setCell h.gl v, h.gl, h.gr, h.ne, by rw [hs]; exact h.ll, by rw [hs]; exact h.lr, ?_, ?_⟩
  · rw [heap_setCell_same _ _ _ _ _ _ h.hl, hc]
  · rw [Below.heap_setCell _ _ _ _ (by exact fun e => h.ne e.symm)]; exact h.hr
abbrev Col.num (c : Col) (x y : Nat) : Col := { c with ik := 1, inn := x, ist := ⟨#[]⟩, ak := 1, an := y, ast := ⟨#[]⟩ }
/-- Both bounds of the left column set to numbers. -/
theorem Mt.setNum {w : World} {l r : Nat} {cl cr : Col} {w' : World} (h : Mt w l r cl cr w') (x y : Nat) :
    Mt w l r (cl.num x y) cr ((((((w'.setCell ⟨l, 5, none⟩ (.int .u8 1)).setCell ⟨l, 6, none⟩ (.float .f64 x)).setCell ⟨l, 7, none⟩ (.string ⟨#[]⟩)).setCell ⟨l, 8, none⟩ (.int .u8 1)).setCell ⟨l, 9, none⟩ (.float .f64 y)).setCell ⟨l, 10, none⟩ (.string ⟨#[]⟩)) :=
  (((((h.set' (cl' := { cl with ik := 1 }) 5 (.int .u8 1) rfl).set' (cl' := { cl with ik := 1, inn := x }) 6 (.float .f64 x) rfl).set' (cl' := { cl with ik := 1, inn := x, ist := ⟨#[]⟩ }) 7 (.string ⟨#[]⟩) rfl).set' (cl' := { cl with ik := 1, inn := x, ist := ⟨#[]⟩, ak := 1 }) 8 (.int .u8 1) rfl).set' (cl' := { cl with ik := 1, inn := x, ist := ⟨#[]⟩, ak := 1, an := y }) 9 (.float .f64 y) rfl).set' (cl' := cl.num x y) 10 (.string ⟨#[]⟩) rfl
theorem Mt.nar {w : World} {l r : Nat} {cl cr c' : Col} {w' w1 : World} (h : Mt w l r cl cr w') (k : Nar w' l c' w1) : Mt w l r c' cr w1 := by
  refine ⟨h.bel.trans ⟨k.os, k.tape, k.output, k.size, fun i hi => k.rest i (Nat.lt_of_lt_of_le hi h.bel.size) (by have := h.gl; omega)⟩, h.gl, h.gr, h.ne, Nat.lt_of_lt_of_le h.ll k.size, Nat.lt_of_lt_of_le h.lr k.size, k.own, ?_⟩
  rw [k.rest _ h.lr (fun e => h.ne e.symm)]; exact h.hr
theorem Mt.cell {w : World} {l r : Nat} {cl cr : Col} {w' : World} (h : Mt w l r cl cr w') (j : Nat) : w'.cell? ⟨l, j, none⟩ = cl.cells[j]? := cell_of_row _ _ _ _ _ _ h.hl
theorem Mt.thaw {w : World} {l r : Nat} {cl cr : Col} {w' : World} (h : Mt w l r cl cr w') (j : Nat) : w'.frozen? ⟨l, j, none⟩ = false := frozen_of_row _ _ _ _ _ h.hl
theorem tab_below {w w' : World} (h0 : 0 < w.heap.size) (t : Tab w) (h : Below w.heap.size w w') : Tab w' := fun i hi => by
  rw [← t i hi]; exact h.cell (p := ⟨0, i * 4 + 2, none⟩) h0

/-- The two copies that the law keeps. -/
structure Mk (w : World) (l r lo ro : Nat) (cl cr kl kr : Col) (w' : World) : Prop where
  mt : Mt w l r cl cr w'
  lo1 : lo < w'.heap.size
  ro1 : ro < w'.heap.size
  lol : lo ≠ l
  lor : lo ≠ r
  rol : ro ≠ l
  ror : ro ≠ r
  hlo : w'.heap[lo]? = some (.cells kl.cells 32)
  hro : w'.heap[ro]? = some (.cells kr.cells 32)
theorem Mk.narL {w : World} {l r lo ro : Nat} {cl cr kl kr c' : Col} {w' w1 : World} (h : Mk w l r lo ro cl cr kl kr w') (k : Nar w' l c' w1) : Mk w l r lo ro c' cr kl kr w1 :=
  ⟨h.mt.nar k, Nat.lt_of_lt_of_le h.lo1 k.size, Nat.lt_of_lt_of_le h.ro1 k.size, h.lol, h.lor, h.rol, h.ror, by rw [k.rest _ h.lo1 h.lol]; exact h.hlo, by rw [k.rest _ h.ro1 h.rol]; exact h.hro⟩

/-- What the region of 'lo, ro := l, r' keeps. -/
abbrev S7 (w : World) (l r : Nat) (cl cr : Col) (w' : World) : Prop := blk w' l = cl.cells ∧ blk w' r = cr.cells ∧ Mt w l r cl cr w'
theorem S7.of {w : World} {l r : Nat} {cl cr : Col} {w' : World} (h : Mt w l r cl cr w') : S7 w l r cl cr w' := ⟨blk_of h.hl, blk_of h.hr, h⟩
theorem Mk.ab {w : World} {l r : Nat} {cl cr : Col} {wc : World} (h : Mt w l r cl cr wc) : Mk w l r wc.heap.size (wc.heap.size + 1) cl cr cl cr ((wc.alloc (.cells cl.cells 32)).alloc (.cells cr.cells 32)).drew := by
  have := h.ll; have := h.lr
  refine ⟨((h.alloc' _).alloc' _).drew', ?_, ?_, by omega, by omega, by omega, by omega, ?_, ?_⟩
  · show _ < ((wc.alloc _).alloc _).heap.size; simp only [hp_size]; omega
  · show _ < ((wc.alloc _).alloc _).heap.size; simp only [hp_size]; omega
  · rw [hp_drew, hp_old _ _ _ (by rw [hp_size]; omega)]; exact hp_new _ _ _ rfl
  · rw [hp_drew]; exact hp_new _ _ _ (by rw [hp_size])
theorem Mk.ba {w : World} {l r : Nat} {cl cr : Col} {wc : World} (h : Mt w l r cl cr wc) : Mk w l r (wc.heap.size + 1) wc.heap.size cl cr cl cr ((wc.alloc (.cells cr.cells 32)).alloc (.cells cl.cells 32)).drew := by
  have := h.ll; have := h.lr
  refine ⟨((h.alloc' _).alloc' _).drew', ?_, ?_, by omega, by omega, by omega, by omega, ?_, ?_⟩
  · show _ < ((wc.alloc _).alloc _).heap.size; simp only [hp_size]; omega
  · show _ < ((wc.alloc _).alloc _).heap.size; simp only [hp_size]; omega
  · rw [hp_drew]; exact hp_new _ _ _ (by rw [hp_size])
  · rw [hp_drew, hp_old _ _ _ (by rw [hp_size]; omega)]; exact hp_new _ _ _ rfl

/-- THE RULE, WHERE A REGION DRAWS: a whole column's load yields its block's cells in every world that meets S. -/
theorem yields_load32 {ops : Array Oper} {S : World → Prop} {o : Oper} {a : Act} (hg : o.guard = none) (x : Operand) (hop : o.op = .load 32 x) (b : Nat) (hx : a.eval x = .pointer (some ⟨b, 0, none⟩))
    (cs : Array Value) (hS : ∀ w, S w → blk w b = cs) (hs : cs.size = 17) : YieldsIf Ybad.prog ops S o (.agg cs) a := by
  refine .inl ⟨by simp [Region.wanted, hg], fun w hw => ?_⟩
  obtain ⟨dst, op, ty, pos, after, guard⟩ := o
  dsimp only at hop
  subst hop
  have hb := hS w hw
  subst hb
  have e := exec_load32 a.eval dst x ty pos after guard w (by rw [hx]; rfl) (by rw [hx]; exact hs)
  rw [hx] at e
  exact e
/-- .. and a whole column's store, as one step. -/
theorem step_store32 {ops : Array Oper} {o : Oper} {a : Act} {w : World} {K : Act → World → Prop} {Q : Exit → Act → World → Prop} {E : Prop}
    (hg : o.guard = none) (x y : Operand) (hop : o.op = .store 32 x y) (b : Nat) (hx : a.eval x = .pointer (some ⟨b, 0, none⟩)) (cs : Array Value) (hy : a.eval y = .agg cs) (ht : thaw32 w b = true) (hc : isCol (.agg cs) = true)
    (w' : World) (hw' : w.setRow b cs = w') (hK : K (a.put o.dst undef) w') : if Region.wanted o (yielded ops a.tmps) = true then Oper.wp Ybad.prog o a w K Q else E := by
  have hw : Region.wanted o (yielded ops a.tmps) = true := by simp [Region.wanted, hg]
  rw [if_pos hw]
  obtain ⟨dst, op, ty, pos, after, guard⟩ := o
  dsimp only at hop
  subst hop
  subst hw'
  have e := exec_store32 a.eval dst x y ty pos after guard w (by rw [hx]; rfl) (by rw [hx]; exact ht) (by rw [hy]; exact hc)
  rw [hx, hy] at e
  unfold Oper.wp
  rw [e]
  exact hK
theorem row_first (w : World) (z1 z2 cs : Array Value) : ((w.alloc (.cells z1 32)).alloc (.cells z2 32)).drew.setRow w.heap.size cs = ((w.alloc (.cells cs 32)).alloc (.cells z2 32)).drew := by
  rw [setRow_drew, setRow_alloc_past _ _ _ _ (by rw [hp_size]; omega), setRow_alloc_at _ _ _ _ _ rfl]
theorem row_second (w : World) (z1 z2 cs : Array Value) : ((w.alloc (.cells z1 32)).alloc (.cells z2 32)).drew.setRow (w.heap.size + 1) cs = ((w.alloc (.cells z1 32)).alloc (.cells cs 32)).drew := by
  rw [setRow_drew, setRow_alloc_at _ _ _ _ _ (by rw [hp_size])]
theorem thaw_first (w : World) (z1 z2 : Array Value) (h : z1.size = 17) : thaw32 ((w.alloc (.cells z1 32)).alloc (.cells z2 32)).drew w.heap.size = true := by
  rw [thaw_drew, thaw_alloc _ _ _ (by rw [hp_size]; omega)]; exact thaw_new _ _ _ _ rfl h
theorem thaw_second (w : World) (z1 z2 : Array Value) (h : z2.size = 17) : thaw32 ((w.alloc (.cells z1 32)).alloc (.cells z2 32)).drew (w.heap.size + 1) = true := by
  rw [thaw_drew]; exact thaw_new _ _ _ _ (by rw [hp_size]) h

set_option maxRecDepth 100000 in
set_option maxHeartbeats 3200000 in
theorem meet_num (sa sb : Side) (oa : sa.Ok) (ob : sb.Ok) (x1 x2 x3 x4 : Nat) (w : World) (hw0 : 0 < w.heap.size) (tab : Tab w) (n1 : nanB x1 = false) (n2 : nanB x2 = false) (n3 : nanB x3 = false) (n4 : nanB x4 = false) :
    Calls Ybad.prog 4 #[.agg sa.cells, .agg sb.cells, .float .f64 x1, .float .f64 x2, .float .f64 x3, .float .f64 x4] w fun e w' => e = .returned (.bool true) ∧ Below w.heap.size w w' := by
  have e1 := nan_neq x1
  have e2 := nan_neq x2
  have e3 := nan_neq x3
  have e4 := nan_neq x4
  rw [n1] at e1; rw [n2] at e2; rw [n3] at e3; rw [n4] at e4
  have la : Hid (((w.alloc (.cells sa.cells 24)).alloc (.cells sb.cells 24)).heap[w.heap.size]? = some (.cells sa.cells 24)) := by
    show _ = _
    rw [hp_old _ _ _ (by simp only [hp_size]; omega)]; exact hp_new _ _ _ rfl
  have lb : Hid (((w.alloc (.cells sa.cells 24)).alloc (.cells sb.cells 24)).heap[w.heap.size + 1]? = some (.cells sb.cells 24)) := by
    show _ = _
    exact hp_new _ _ _ (by simp only [hp_size])
  have TB : Hid (Tab w) := tab
  have N1 : Hid (nanB x1 = false) := n1
  have N2 : Hid (nanB x2 = false) := n2
  have N3 : Hid (nanB x3 = false) := n3
  have N4 : Hid (nanB x4 = false) := n4
  clear tab n1 n2 n3 n4
  go_enter Ybad.func4, Ybad.ntmps4
  go_upto_region 3 with fail
  clear e1 e2 e3 e4
  go_cut [13] from 19 to 112 (fun t wc => ∃ l cl, t = .pointer (some ⟨l, 0, none⟩) ∧ ColOf cl sa ⟨#[108]⟩ ∧ Below w.heap.size w wc ∧ wc.heap[w.heap.size + 1]? = some (.cells sb.cells 24) ∧ w.heap.size + 1 < l ∧ l < wc.heap.size ∧ wc.heap[l]? = some (.cells cl.cells 32))
  case first =>
    go_wp2_with (refine wpList_load_row rfl 24 _ rfl _ rfl 24 sa.cells (0, 0) _ la Ybad.underlying24 rfl (info24 sa) ?_)
    refine (bcol_any sa oa ⟨#[108]⟩ _).mono ?_
    rintro e w1 ⟨cl, rfl, hb1, hcl⟩
    go_wp2_with (refine wpList_store_row rfl 32 _ _ rfl _ cl.cells rfl rfl 32 _ (hp_new _ _ _ rfl) (info32 cl) rfl (colAll cl) ?_)
    go_meet
    case rel =>
      rw [World.setRow_alloc_new]
      have hz : w.heap.size + 2 ≤ w1.heap.size := by have := hb1.size; simp only [hp_size] at this; omega
      have bw : Below w.heap.size w w1 := (((Below.refl _ _).alloc (Nat.le_refl _) _).alloc (by simp) _).trans (hb1.mono (by simp only [hp_size]; omega))
      refine ⟨w1.heap.size, cl, rfl, hcl, bw.alloc (by omega) _, ?_, by omega, by rw [hp_size]; omega, hp_new _ _ _ rfl⟩
      rw [hp_old _ _ _ (by omega), hb1.block _ (by simp only [hp_size]; omega)]; exact lb
  case rest =>
    obtain ⟨l, cl, rfl, hcl, bw, k1, gl, ll, hl⟩ := hcut
    have K1 : Hid (wc.heap[w.heap.size + 1]? = some (.cells sb.cells 24)) := k1
    have HL : Hid (wc.heap[l]? = some (.cells cl.cells 32)) := hl
    have HCL : Hid (ColOf cl sa ⟨#[108]⟩) := hcl
    clear k1 hl la lb hcl
    go_upto_region 4 with fail
    go_cut [14] from 19 to 112 (fun t wc => ∃ r cr, t = .pointer (some ⟨r, 0, none⟩) ∧ ColOf cr sb ⟨#[114]⟩ ∧ Mt w l r cl cr wc)
    case first =>
      go_wp2_with (refine wpList_load_row rfl 24 _ rfl _ rfl 24 sb.cells (0, 0) _ K1 Ybad.underlying24 rfl (info24 sb) ?_)
      refine (bcol_any sb ob ⟨#[114]⟩ _).mono ?_
      rintro e w2 ⟨cr, rfl, hb2, hcr⟩
      go_wp2_with (refine wpList_store_row rfl 32 _ _ rfl _ cr.cells rfl rfl 32 _ (hp_new _ _ _ rfl) (info32 cr) rfl (colAll cr) ?_)
      go_meet
      case rel =>
        rw [World.setRow_alloc_new]
        have hz := hb2.size
        have hz' := bw.size
        refine ⟨w2.heap.size, cr, rfl, hcr, (bw.trans (hb2.mono hz')).alloc (by omega) _, by omega, by omega, by omega, by rw [hp_size]; omega, by rw [hp_size]; omega, ?_, hp_new _ _ _ rfl⟩
        rw [hp_old _ _ _ (by omega), hb2.block _ ll]; exact HL
    case rest =>
      obtain ⟨r, cr, rfl, hcr, M0⟩ := hcut
      have H0 : Hid (Mt w l r cl cr wc) := M0
      have HCR : Hid (ColOf cr sb ⟨#[114]⟩) := hcr
      clear hcr M0 HL K1 bw gl ll
      go_upto_region 5 with fail
      go_cut [] from 19 to 112 (fun wc => Mt w l r (cl.num x1 x2) cr wc)
      case first =>
        have ll := H0.out.ll
        have i5 : wc.cell? ⟨l, 5, none⟩ = some (.int .u8 cl.ik) := H0.out.cell 5
        have i6 : wc.cell? ⟨l, 6, none⟩ = some (.float .f64 cl.inn) := H0.out.cell 6
        have i7 : wc.cell? ⟨l, 7, none⟩ = some (.string cl.ist) := H0.out.cell 7
        have i8 : wc.cell? ⟨l, 8, none⟩ = some (.int .u8 cl.ak) := H0.out.cell 8
        have i9 : wc.cell? ⟨l, 9, none⟩ = some (.float .f64 cl.an) := H0.out.cell 9
        have i10 : wc.cell? ⟨l, 10, none⟩ = some (.string cl.ast) := H0.out.cell 10
        have g5 : wc.frozen? ⟨l, 5, none⟩ = false := H0.out.thaw 5
        have g6 : wc.frozen? ⟨l, 6, none⟩ = false := H0.out.thaw 6
        have g7 : wc.frozen? ⟨l, 7, none⟩ = false := H0.out.thaw 7
        have g8 : wc.frozen? ⟨l, 8, none⟩ = false := H0.out.thaw 8
        have g9 : wc.frozen? ⟨l, 9, none⟩ = false := H0.out.thaw 9
        have g10 : wc.frozen? ⟨l, 10, none⟩ = false := H0.out.thaw 10
        go_wp2_with (go_at_call 12; refine (numberValue_any _ _).mono ?_; rintro e w' ⟨rfl, rfl⟩)
        go_meet
        case rel => exact ((H0.out.setNum x1 x2).alloc' _).alloc' _
      case rest =>
        have H1 : Hid (Mt w l r (cl.num x1 x2) cr wc) := hcut
        clear hcut H0
        go_upto_region 6 with fail
        go_cut [] from 19 to 112 (fun wc => Mt w l r (cl.num x1 x2) (cr.num x3 x4) wc)
        case first =>
          have ll := H1.out.lr
          have i5 : wc.cell? ⟨r, 5, none⟩ = some (.int .u8 cr.ik) := H1.out.sym.cell 5
          have g5 : wc.frozen? ⟨r, 5, none⟩ = false := H1.out.sym.thaw 5
          have i6 : wc.cell? ⟨r, 6, none⟩ = some (.float .f64 cr.inn) := H1.out.sym.cell 6
          have g6 : wc.frozen? ⟨r, 6, none⟩ = false := H1.out.sym.thaw 6
          have i7 : wc.cell? ⟨r, 7, none⟩ = some (.string cr.ist) := H1.out.sym.cell 7
          have g7 : wc.frozen? ⟨r, 7, none⟩ = false := H1.out.sym.thaw 7
          have i8 : wc.cell? ⟨r, 8, none⟩ = some (.int .u8 cr.ak) := H1.out.sym.cell 8
          have g8 : wc.frozen? ⟨r, 8, none⟩ = false := H1.out.sym.thaw 8
          have i9 : wc.cell? ⟨r, 9, none⟩ = some (.float .f64 cr.an) := H1.out.sym.cell 9
          have g9 : wc.frozen? ⟨r, 9, none⟩ = false := H1.out.sym.thaw 9
          have i10 : wc.cell? ⟨r, 10, none⟩ = some (.string cr.ast) := H1.out.sym.cell 10
          have g10 : wc.frozen? ⟨r, 10, none⟩ = false := H1.out.sym.thaw 10
          go_wp2_with (go_at_call 12; refine (numberValue_any _ _).mono ?_; rintro e w' ⟨rfl, rfl⟩)
          go_meet
          case rel => exact (((H1.out.sym.setNum x3 x4).alloc' _).alloc' _).sym
        case rest =>
          obtain ⟨dl, HDL⟩ : ∃ dl, dl = cl.num x1 x2 := ⟨_, rfl⟩
          obtain ⟨dr, HDR⟩ : ∃ dr, dr = cr.num x3 x4 := ⟨_, rfl⟩
          rw [← HDL, ← HDR] at hcut
          have hdl : Hid (dl = cl.num x1 x2) := HDL
          have hdr : Hid (dr = cr.num x3 x4) := HDR
          have H2 : Hid (Mt w l r dl dr wc) := hcut
          clear hcut H1 HDL HDR
          have ll := H2.out.ll
          have lr := H2.out.lr
          go_upto_region 7 with fail
          go_cut [15, 16] from 19 to 112 (fun s15 s16 wc => ∃ lo ro, s15 = .pointer (some ⟨lo, 0, none⟩) ∧ s16 = .pointer (some ⟨ro, 0, none⟩) ∧ Mk w l r lo ro dl dr dl dr wc)
          case first =>
            refine wp_region_held_drew (S := fun w' => S7 w l r dl dr w') (by kernel_rfl) (S7.of H2.out.drew') (fun hHeld => ?_)
            refine wpAnyH_take (i := 0) (v := .agg dl.cells) rfl (by kernel_rfl) (by kernel_rfl) (by kernel_rfl) (fun _ _ _ h => h) (yields_load32 rfl _ rfl l rfl dl.cells (fun _ h => h.1) rfl) hHeld ?_; simp only [Act.put, List.getElem_toArray, List.getElem_cons_zero, List.getElem_cons_succ, List.setIfInBounds_toArray, List.set_cons_zero, List.set_cons_succ]
            refine wpAnyH_take (i := 1) (v := .agg dr.cells) rfl (by kernel_rfl) (by kernel_rfl) (by kernel_rfl) (fun _ _ _ h => h) (yields_load32 rfl _ rfl r rfl dr.cells (fun _ h => h.2.1) rfl) hHeld ?_; simp only [Act.put, List.getElem_toArray, List.getElem_cons_zero, List.getElem_cons_succ, List.setIfInBounds_toArray, List.set_cons_zero, List.set_cons_succ]
            refine wpAnyH_ready (rs := [2, 3]) (by kernel_rfl) (by simp) (AllReadyH.cons rfl (fun K hK => ?_) (AllReadyH.cons rfl (fun K hK => ?_) AllReadyH.nil))
            · go_simp; refine hK.out _ _ (S7.of (by repeat (first | exact H2.out | refine Mt.drew' ?_ | refine Mt.alloc' ?_ _))) (fun hHeld => ?_); clear hK K
              refine wpAnyH_ready (rs := [3]) (by kernel_rfl) (by simp) (AllReadyH.cons rfl (fun K hK => ?_) AllReadyH.nil); go_simp; refine hK.out _ _ (S7.of (by repeat (first | exact H2.out | refine Mt.drew' ?_ | refine Mt.alloc' ?_ _))) (fun hHeld => ?_); clear hK K
              refine wpAnyH_ready (rs := [4]) (by kernel_rfl) (by simp) (AllReadyH.cons rfl (fun K hK => ?_) AllReadyH.nil); refine step_store32 rfl _ _ rfl wc.heap.size rfl dl.cells rfl (thaw_first _ _ _ rfl) (isCol_mk _) _ (row_first _ _ _ _) ?_; refine hK.out _ _ (S7.of (by repeat (first | exact H2.out | refine Mt.drew' ?_ | refine Mt.alloc' ?_ _))) (fun hHeld => ?_); clear hK K; simp only [Act.put, List.getElem_toArray, List.getElem_cons_zero, List.getElem_cons_succ, List.setIfInBounds_toArray, List.set_cons_zero, List.set_cons_succ]
              refine wpAnyH_ready (rs := [5]) (by kernel_rfl) (by simp) (AllReadyH.cons rfl (fun K hK => ?_) AllReadyH.nil); refine step_store32 rfl _ _ rfl (wc.heap.size + 1) rfl dr.cells rfl (thaw_second _ _ _ rfl) (isCol_mk _) _ (row_second _ _ _ _) ?_; refine hK.out _ _ (S7.of (by repeat (first | exact H2.out | refine Mt.drew' ?_ | refine Mt.alloc' ?_ _))) (fun hHeld => ?_); clear hK K; simp only [Act.put, List.getElem_toArray, List.getElem_cons_zero, List.getElem_cons_succ, List.setIfInBounds_toArray, List.set_cons_zero, List.set_cons_succ]
              refine wpAnyH_done (by kernel_rfl) ?_ _
              go_wp2
              go_meet
              case rel => exact ⟨wc.heap.size, (wc.heap.size + 1), rfl, rfl, Mk.ab H2.out⟩
            · go_simp; refine hK.out _ _ (S7.of (by repeat (first | exact H2.out | refine Mt.drew' ?_ | refine Mt.alloc' ?_ _))) (fun hHeld => ?_); clear hK K
              refine wpAnyH_ready (rs := [2]) (by kernel_rfl) (by simp) (AllReadyH.cons rfl (fun K hK => ?_) AllReadyH.nil); go_simp; refine hK.out _ _ (S7.of (by repeat (first | exact H2.out | refine Mt.drew' ?_ | refine Mt.alloc' ?_ _))) (fun hHeld => ?_); clear hK K
              refine wpAnyH_ready (rs := [4]) (by kernel_rfl) (by simp) (AllReadyH.cons rfl (fun K hK => ?_) AllReadyH.nil); refine step_store32 rfl _ _ rfl (wc.heap.size + 1) rfl dl.cells rfl (thaw_second _ _ _ rfl) (isCol_mk _) _ (row_second _ _ _ _) ?_; refine hK.out _ _ (S7.of (by repeat (first | exact H2.out | refine Mt.drew' ?_ | refine Mt.alloc' ?_ _))) (fun hHeld => ?_); clear hK K; simp only [Act.put, List.getElem_toArray, List.getElem_cons_zero, List.getElem_cons_succ, List.setIfInBounds_toArray, List.set_cons_zero, List.set_cons_succ]
              refine wpAnyH_ready (rs := [5]) (by kernel_rfl) (by simp) (AllReadyH.cons rfl (fun K hK => ?_) AllReadyH.nil); refine step_store32 rfl _ _ rfl wc.heap.size rfl dr.cells rfl (thaw_first _ _ _ rfl) (isCol_mk _) _ (row_first _ _ _ _) ?_; refine hK.out _ _ (S7.of (by repeat (first | exact H2.out | refine Mt.drew' ?_ | refine Mt.alloc' ?_ _))) (fun hHeld => ?_); clear hK K; simp only [Act.put, List.getElem_toArray, List.getElem_cons_zero, List.getElem_cons_succ, List.setIfInBounds_toArray, List.set_cons_zero, List.set_cons_succ]
              refine wpAnyH_done (by kernel_rfl) ?_ _
              go_wp2
              go_meet
              case rel => exact ⟨(wc.heap.size + 1), wc.heap.size, rfl, rfl, Mk.ba H2.out⟩
          case rest =>
            obtain ⟨lo, ro, rfl, rfl, hk⟩ := hcut
            have H3 : Hid (Mk w l r lo ro dl dr dl dr wc) := hk
            clear hk H2 ll lr
            have ty1 : Hid (0 ≤ dl.ty ∧ dl.ty ≤ 255) := by
              show _ ∧ _
              rw [hdl.out, show (cl.num x1 x2).ty = cl.ty from rfl, HCL.out.2.1]; exact ⟨oa.ty0, oa.ty1⟩
            have ty2 : Hid (0 ≤ dr.ty ∧ dr.ty ≤ 255) := by
              show _ ∧ _
              rw [hdr.out, show (cr.num x3 x4).ty = cr.ty from rfl, HCR.out.2.1]; exact ⟨ob.ty0, ob.ty1⟩
            have l0 : Hid (l ≠ 0) := by
              show _ ≠ _
              have := H3.out.mt.gl; omega
            have r0 : Hid (r ≠ 0) := by
              show _ ≠ _
              have := H3.out.mt.gr; omega
            have k2 : Hid (dr.ik = 1 ∧ dr.ak = 1 ∧ dr.inn = x3 ∧ dr.an = x4) := by rw [hdr.out]; exact ⟨rfl, rfl, rfl, rfl⟩
            have k1 : Hid (dl.ik = 1 ∧ dl.ak = 1 ∧ dl.inn = x1 ∧ dl.an = x2) := by rw [hdl.out]; exact ⟨rfl, rfl, rfl, rfl⟩
            clear hdl hdr
            go_upto_region 8 with fail
            go_cut [] from 19 to 112 (fun wc => ∃ el, el.ik = 1 ∧ el.inn = upF x1 x3 ∧ el.ak = 1 ∧ el.an = dnF x2 x4 ∧ Mk w l r lo ro el dr dl dr wc)
            case first =>
              go_wp2_with (refine wpList_load_row rfl 32 _ rfl _ rfl 32 dr.cells (0, 0) _ H3.out.hro Ybad.underlying32 rfl (info32 dr) ?_)
              refine (narrow_any dl dr l _ H3.out.mt.ll l0 H3.out.mt.hl (tab_below hw0 TB.out H3.out.mt.bel) ty1.out.1 ty1.out.2).mono ?_
              rintro e w1 ⟨rfl, c1, ndv, has, hc1, _, hn⟩
              have HK : Hid (Mk w l r lo ro (narrowed c1 dr ndv has) dr dl dr w1) := H3.out.narL hn
              have HC : Hid (c1 = { dl with nul := 0 }) := hc1
              clear hn hc1
              go_wp2
              go_meet
              case rel =>
                obtain ⟨q1, q2, q3, q4⟩ := narrowed_num c1 dr ndv has (by rw [HC.out]; exact k1.out.1) k2.out.1 (by rw [HC.out]; exact k1.out.2.1) k2.out.2.1
                exact ⟨_, q1, by rw [q2, HC.out, k2.out.2.2.1]; show upF dl.inn x3 = _; rw [k1.out.2.2.1], q3, by rw [q4, HC.out, k2.out.2.2.2]; show dnF dl.an x4 = _; rw [k1.out.2.2.2], HK⟩
            case rest =>
              obtain ⟨el, a1, a2, a3, a4, hk⟩ := hcut
              have H4 : Hid (Mk w l r lo ro el dr dl dr wc) := hk
              have A : Hid (el.ik = 1 ∧ el.inn = upF x1 x3 ∧ el.ak = 1 ∧ el.an = dnF x2 x4) := ⟨a1, a2, a3, a4⟩
              clear hk H3 a1 a2 a3 a4
              go_upto_region 9 with fail
              go_cut [] from 19 to 112 (fun wc => ∃ er, er.ik = 1 ∧ er.inn = upF x3 x1 ∧ er.ak = 1 ∧ er.an = dnF x4 x2 ∧ Mt w l r el er wc)
              case first =>
                go_wp2_with (refine wpList_load_row rfl 32 _ rfl _ rfl 32 dl.cells (0, 0) _ H4.out.hlo Ybad.underlying32 rfl (info32 dl) ?_)
                refine (narrow_any dr dl r _ H4.out.mt.lr r0 H4.out.mt.hr (tab_below hw0 TB.out H4.out.mt.bel) ty2.out.1 ty2.out.2).mono ?_
                rintro e w1 ⟨rfl, c1, ndv, has, hc1, _, hn⟩
                have HK : Hid (Mt w l r el (narrowed c1 dl ndv has) w1) := (H4.out.mt.sym.nar hn).sym
                have HC : Hid (c1 = { dr with nul := 0 }) := hc1
                clear hn hc1
                go_wp2
                go_meet
                case rel =>
                  obtain ⟨q1, q2, q3, q4⟩ := narrowed_num c1 dl ndv has (by rw [HC.out]; exact k2.out.1) k1.out.1 (by rw [HC.out]; exact k2.out.2.1) k1.out.2.1
                  exact ⟨_, q1, by rw [q2, HC.out, k1.out.2.2.1]; show upF dr.inn x1 = _; rw [k2.out.2.2.1], q3, by rw [q4, HC.out, k1.out.2.2.2]; show dnF dr.an x2 = _; rw [k2.out.2.2.2], HK⟩
              case rest =>
                obtain ⟨er, a1, a2, a3, a4, hk⟩ := hcut
                obtain ⟨mx, nx, hrx, hx⟩ := run_max (P := Ybad.prog) #[22, 22] 22 x1 x3 wc
                obtain ⟨mn, nn, hrn, hn⟩ := run_min (P := Ybad.prog) #[22, 22] 22 x2 x4 (wc.drewN nx)
                have c5 : wc.cell? ⟨l, 5, none⟩ = some (.int .u8 1) := by rw [hk.cell 5]; show some (Value.int .u8 el.ik) = _; rw [A.out.1]
                have c6 : wc.cell? ⟨l, 6, none⟩ = some (.float .f64 (upF x1 x3)) := by rw [hk.cell 6]; show some (Value.float .f64 el.inn) = _; rw [A.out.2.1]
                have c8 : wc.cell? ⟨l, 8, none⟩ = some (.int .u8 1) := by rw [hk.cell 8]; show some (Value.int .u8 el.ak) = _; rw [A.out.2.2.1]
                have c9 : wc.cell? ⟨l, 9, none⟩ = some (.float .f64 (dnF x2 x4)) := by rw [hk.cell 9]; show some (Value.float .f64 el.an) = _; rw [A.out.2.2.2]
                have d5 : wc.cell? ⟨r, 5, none⟩ = some (.int .u8 1) := by rw [hk.sym.cell 5]; show some (Value.int .u8 er.ik) = _; rw [a1]
                have d6 : wc.cell? ⟨r, 6, none⟩ = some (.float .f64 (upF x3 x1)) := by rw [hk.sym.cell 6]; show some (Value.float .f64 er.inn) = _; rw [a2]
                have d8 : wc.cell? ⟨r, 8, none⟩ = some (.int .u8 1) := by rw [hk.sym.cell 8]; show some (Value.int .u8 er.ak) = _; rw [a3]
                have d9 : wc.cell? ⟨r, 9, none⟩ = some (.float .f64 (dnF x4 x2)) := by rw [hk.sym.cell 9]; show some (Value.float .f64 er.an) = _; rw [a4]
                have f1 := up_left N1.out N3.out hx
                have f2 := up_right N1.out N3.out hx
                have f3 := dn_left N2.out N4.out hn
                have f4 := dn_right N2.out N4.out hn
                have HK : Hid (Below w.heap.size w wc) := hk.bel
                clear hk a1 a2 a3 a4 hx hn H4
                go_wp2
                go_ret
                exact ⟨rfl, below_drewN HK.out _⟩
end Go.Proofs.YbulkbspoDoor
