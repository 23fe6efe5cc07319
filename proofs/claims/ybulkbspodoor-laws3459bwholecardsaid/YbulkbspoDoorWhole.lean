/-
  The walk of 'LawS3459BWhole' (function 3).
-/
import Derived.Test.YbulkbspoDoorWholeLaw
import Derived.Test.YbulkbspoDoorRules
import Derived.Test.YbulkbspoDoorCols
import Derived.Deep.WholeRow
namespace Go.Proofs.YbulkbspoDoor
open Go.RowKit
set_option linter.unusedSimpArgs false
attribute [local go_sem] alloc_drewN setCell_drewN run_store_float

theorem side24 (s : Side) : (Ybad.prog.info? 24).map (·.size) = some s.cells.size := by kernel_rfl
theorem colOne (c : Col) : c.cells.all (·.oneCell') = true := by kernel_rfl
theorem tab_keep {w w' : World} (h0 : 0 < w.heap.size) (t : Tab w) (h : Below w.heap.size w w') : Tab w' := fun i hi => by
  rw [← t i hi]; exact h.cell (p := ⟨0, i * 4 + 2, none⟩) h0

/-- THE STATE WHEN THE TWO COLUMNS AND THE COPY ARE MADE. -/
structure W4 (w : World) (l r bf : Nat) (cl cr cb : Col) (sb : Side) (w' : World) : Prop where
  bel : Below w.heap.size w w'
  gl : w.heap.size + 1 < l
  ll : l < w'.heap.size
  lr : r < w'.heap.size
  lb : bf < w'.heap.size
  nr : r ≠ l
  nb : bf ≠ l
  hs : w'.heap[w.heap.size + 1]? = some (.cells sb.cells 24)
  hl : w'.heap[l]? = some (.cells cl.cells 32)
  hr : w'.heap[r]? = some (.cells cr.cells 32)
  hb : w'.heap[bf]? = some (.cells cb.cells 32)
theorem W4.nar {w : World} {l r bf : Nat} {cl cr cb c' : Col} {sb : Side} {w' w1 : World} (h : W4 w l r bf cl cr cb sb w') (k : Nar w' l c' w1) : W4 w l r bf c' cr cb sb w1 := by
  have gl := h.gl
  have ll := h.ll
  refine ⟨h.bel.trans ⟨k.os, k.tape, k.output, k.size, fun i hi => k.rest i (Nat.lt_of_lt_of_le hi h.bel.size) (by omega)⟩, gl, Nat.lt_of_lt_of_le h.ll k.size, Nat.lt_of_lt_of_le h.lr k.size, Nat.lt_of_lt_of_le h.lb k.size, h.nr, h.nb, ?_, k.own, ?_, ?_⟩
  · rw [k.rest _ (by omega) (by omega)]; exact h.hs
  · rw [k.rest _ h.lr h.nr]; exact h.hr
  · rw [k.rest _ h.lb h.nb]; exact h.hb

/-- A Value's own block, above all that w4 has. -/
structure W5 (w4 : World) (g : Nat) (k : Int) (n : Nat) (s : ByteArray) (w' : World) : Prop where
  bel : Below w4.heap.size w4 w'
  ge : w4.heap.size ≤ g
  lt : g < w'.heap.size
  hg : w'.heap[g]? = some (.cells (V3 k n s) 28)
theorem W5.alloc' {w4 : World} {g : Nat} {k : Int} {n : Nat} {s : ByteArray} {w' : World} (h : W5 w4 g k n s w') (o : Obj) : W5 w4 g k n s (w'.alloc o) :=
  ⟨h.bel.alloc (by have := h.ge; have := h.lt; omega) o, h.ge, by rw [hp_size]; exact Nat.lt_succ_of_lt h.lt, by rw [hp_old _ _ _ h.lt]; exact h.hg⟩
theorem W5.cell {w4 : World} {g : Nat} {k : Int} {n : Nat} {s : ByteArray} {w' : World} (h : W5 w4 g k n s w') (j : Nat) : w'.cell? ⟨g, j, none⟩ = (V3 k n s)[j]? := cell_of_row _ _ _ _ _ _ h.hg
theorem W5.thaw {w4 : World} {g : Nat} {k : Int} {n : Nat} {s : ByteArray} {w' : World} (h : W5 w4 g k n s w') (j : Nat) : w'.frozen? ⟨g, j, none⟩ = false := frozen_of_row _ _ _ _ _ h.hg
theorem W5.new {w4 w' : World} (h : Below w4.heap.size w4 w') (k : Int) (n : Nat) (s : ByteArray) : W5 w4 w'.heap.size k n s (w'.alloc (.cells (V3 k n s) 28)) :=
  ⟨h.alloc h.size _, h.size, by rw [hp_size]; omega, hp_new _ _ _ rfl⟩
/-- The Value overwritten. -/
theorem W5.set {w4 : World} {g : Nat} {k : Int} {n : Nat} {s : ByteArray} {w' : World} (h : W5 w4 g k n s w') (k' : Int) (n' : Nat) (s' : ByteArray) :
    W5 w4 g k' n' s' (((w'.setCell ⟨g, 0, none⟩ (.int .u8 k')).setCell ⟨g, 1, none⟩ (.float .f64 n')).setCell ⟨g, 2, none⟩ (.string s')) := by
  refine ⟨((h.bel.setCell h.ge _).setCell h.ge _).setCell h.ge _, h.ge, by simp only [World.setCell, Array.size_modify]; exact h.lt, ?_⟩
  rw [heap_setCell_same _ _ _ _ _ _ (heap_setCell_same _ _ _ _ _ _ (heap_setCell_same _ _ _ _ _ _ h.hg))]
  rfl
/-- .. and another's stays. -/
theorem W5.other {w4 : World} {g g2 : Nat} {k : Int} {n : Nat} {s : ByteArray} {w' : World} (h : W5 w4 g k n s w') (hne : g ≠ g2) (g4 : w4.heap.size ≤ g2) (j : Nat) (v : Value) : W5 w4 g k n s (w'.setCell ⟨g2, j, none⟩ v) :=
  ⟨h.bel.setCell g4 v, h.ge, by simp only [World.setCell, Array.size_modify]; exact h.lt, by rw [Below.heap_setCell _ _ _ _ hne]; exact h.hg⟩

set_option maxRecDepth 100000 in
set_option maxHeartbeats 3200000 in
theorem whole_any (sa sb : Side) (oa : sa.Ok) (ob : sb.Ok) (w : World) (hw0 : 0 < w.heap.size) (tab : Tab w) :
    Calls Ybad.prog 3 #[.agg sa.cells, .agg sb.cells] w fun e w' => e = .returned (.bool true) ∧ Below w.heap.size w w' := by
  have la : Hid (((w.alloc (.cells sa.cells 24)).alloc (.cells sb.cells 24)).heap[w.heap.size]? = some (.cells sa.cells 24)) := by
    show _ = _
    rw [hp_old _ _ _ (by simp only [hp_size]; omega)]; exact hp_new _ _ _ rfl
  have lb : Hid (((w.alloc (.cells sa.cells 24)).alloc (.cells sb.cells 24)).heap[w.heap.size + 1]? = some (.cells sb.cells 24)) := by
    show _ = _
    exact hp_new _ _ _ (by simp only [hp_size])
  have TB : Hid (Tab w) := tab
  clear tab
  go_enter Ybad.func3, Ybad.ntmps3
  go_upto_region 1 with fail
  go_cut [5] from 16 to 17 (fun t wc => ∃ l cl, t = .pointer (some ⟨l, 0, none⟩) ∧ ColOf cl sa ⟨#[97]⟩ ∧ Below w.heap.size w wc ∧ wc.heap[w.heap.size + 1]? = some (.cells sb.cells 24) ∧ w.heap.size + 1 < l ∧ l < wc.heap.size ∧ wc.heap[l]? = some (.cells cl.cells 32))
  case first =>
    go_wp2_with (refine wpList_load_row rfl 24 _ rfl _ rfl 24 sa.cells (0, 0) _ la Ybad.underlying24 rfl (side24 sa) ?_)
    refine (bcol_any sa oa ⟨#[97]⟩ _).mono ?_
    rintro e w1 ⟨cl, rfl, hb1, hcl⟩
    go_wp2_with (refine wpList_store_row rfl 32 _ _ rfl _ cl.cells rfl rfl 32 _ (hp_new _ _ _ rfl) (info32 cl) rfl (colOne cl) ?_)
    go_meet
    case rel =>
      rw [World.setRow_alloc_new]
      have hz : w.heap.size + 2 ≤ w1.heap.size := by have := hb1.size; simp only [hp_size] at this; omega
      have bw : Below w.heap.size w w1 := (((Below.refl _ _).alloc (Nat.le_refl _) _).alloc (by simp) _).trans (hb1.mono (by simp only [hp_size]; omega))
      refine ⟨w1.heap.size, cl, rfl, hcl, bw.alloc (by omega) _, ?_, by omega, by rw [hp_size]; omega, hp_new _ _ _ rfl⟩
      rw [hp_old _ _ _ (by omega), hb1.block _ (by simp only [hp_size]; omega)]; exact lb
  case rest =>
    obtain ⟨l, cl, rfl, hcl, bw, k1, gl, ll, hl⟩ := hcut
    have K1 : Hid (wc.heap[w.heap.size + 1]? = some (.cells sb.cells 24)) := k1
    have HL : Hid (wc.heap[l]? = some (.cells cl.cells 32)) := hl
    have HCL : Hid (ColOf cl sa ⟨#[97]⟩) := hcl
    clear k1 hl la lb hcl
    go_upto_region 2 with fail
    go_cut [6] from 18 to 19 (fun t wc => ∃ r cr, t = .pointer (some ⟨r, 0, none⟩) ∧ ColOf cr sb ⟨#[98]⟩ ∧ Below w.heap.size w wc ∧ r ≠ l ∧ l < wc.heap.size ∧ r < wc.heap.size ∧ wc.heap[w.heap.size + 1]? = some (.cells sb.cells 24) ∧ wc.heap[l]? = some (.cells cl.cells 32) ∧ wc.heap[r]? = some (.cells cr.cells 32))
    case first =>
      go_wp2_with (refine wpList_load_row rfl 24 _ rfl _ rfl 24 sb.cells (0, 0) _ K1 Ybad.underlying24 rfl (side24 sb) ?_)
      refine (bcol_any sb ob ⟨#[98]⟩ _).mono ?_
      rintro e w2 ⟨cr, rfl, hb2, hcr⟩
      go_wp2_with (refine wpList_store_row rfl 32 _ _ rfl _ cr.cells rfl rfl 32 _ (hp_new _ _ _ rfl) (info32 cr) rfl (colOne cr) ?_)
      go_meet
      case rel =>
        rw [World.setRow_alloc_new]
        have hz := hb2.size
        have hz' := bw.size
        refine ⟨w2.heap.size, cr, rfl, hcr, (bw.trans (hb2.mono hz')).alloc (by omega) _, by omega, by rw [hp_size]; omega, by rw [hp_size]; omega, ?_, ?_, hp_new _ _ _ rfl⟩
        · rw [hp_old _ _ _ (by omega), hb2.block _ (by omega)]; exact K1
        · rw [hp_old _ _ _ (by omega), hb2.block _ ll]; exact HL
    case rest =>
      clear K1 HL bw ll
      obtain ⟨r, cr, rfl, hcr, bw, nr, ll, lr, k1, hl, hr⟩ := hcut
      have K1 : Hid (wc.heap[w.heap.size + 1]? = some (.cells sb.cells 24)) := k1
      have HL : Hid (wc.heap[l]? = some (.cells cl.cells 32)) := hl
      have HR : Hid (wc.heap[r]? = some (.cells cr.cells 32)) := hr
      have HCR : Hid (ColOf cr sb ⟨#[98]⟩) := hcr
      clear k1 hl hr hcr
      go_upto_region 3 with fail
      go_cut [7] from 20 to 20 (fun t wc => ∃ bf, t = .pointer (some ⟨bf, 0, none⟩) ∧ W4 w l r bf cl cr cl sb wc)
      case first =>
        go_wp2_with (first
          | (refine wpList_load_row rfl 32 _ rfl _ rfl 32 cl.cells (0, 0) _ HL Ybad.underlying32 rfl (info32 cl) ?_)
          | (refine wpList_store_row rfl 32 _ _ rfl _ cl.cells rfl rfl 32 _ (hp_new _ _ _ rfl) (info32 cl) rfl (colOne cl) ?_))
        go_meet
        case rel =>
          rw [World.setRow_alloc_new]
          have hz' := bw.size
          refine ⟨wc.heap.size, rfl, bw.alloc (by omega) _, gl, by rw [hp_size]; omega, by rw [hp_size]; omega, by rw [hp_size]; omega, nr, by omega, ?_, ?_, ?_, hp_new _ _ _ rfl⟩
          · rw [hp_old _ _ _ (by omega)]; exact K1
          · rw [hp_old _ _ _ (by omega)]; exact HL
          · rw [hp_old _ _ _ (by omega)]; exact HR
      case rest =>
        obtain ⟨bf, rfl, h4⟩ := hcut
        have H4 : Hid (W4 w l r bf cl cr cl sb wc) := h4
        have ty1 : Hid (0 ≤ cl.ty ∧ cl.ty ≤ 255) := by
          show _ ∧ _
          rw [HCL.out.2.1]; exact ⟨oa.ty0, oa.ty1⟩
        have l0 : Hid (l ≠ 0) := by
          show _ ≠ _
          omega
        clear h4 K1 HL HR bw nr ll lr gl
        go_upto_region 4 with fail
        go_cut [] from 21 to 22 (fun wc => ∃ cn, Kept cl cr cn ∧ W4 w l r bf cn cr cl sb wc)
        case first =>
          go_wp2_with (refine wpList_load_row rfl 32 _ rfl _ rfl 32 cr.cells (0, 0) _ H4.out.hr Ybad.underlying32 rfl (info32 cr) ?_)
          refine (narrow_any cl cr l _ H4.out.ll l0 H4.out.hl (tab_keep hw0 TB.out H4.out.bel) ty1.out.1 ty1.out.2).mono ?_
          rintro e w1 ⟨rfl, c1, ndv, has, hc1, hn, hk⟩
          have HK : Hid (W4 w l r bf (narrowed c1 cr ndv has) cr cl sb w1) := H4.out.nar hk
          have HC : Hid (Kept cl cr (narrowed c1 cr ndv has)) := by
            show Kept _ _ _
            rw [hc1] at hn ⊢; exact kept_narrowed cl cr ndv has hn
          clear hn hc1 hk
          go_wp2
          go_meet
          case rel => exact ⟨_, HC, HK⟩
        case rest =>
          obtain ⟨cn, hk, h5⟩ := hcut
          have HK : Hid (Kept cl cr cn) := hk
          have H5 : Hid (W4 w l r bf cn cr cl sb wc) := h5
          have lt1 := h5.gl
          have lt2 := h5.ll
          have lt3 := h5.lr
          have lt4 := h5.lb
          clear H4 hk h5 ty1 l0
          obtain ⟨w4, rfl⟩ : ∃ w4, w4 = wc := ⟨_, rfl⟩
          have R0 : Hid (Below w4.heap.size w4 w4) := Below.refl _ _
          have b2 : w4.cell? ⟨bf, 2, none⟩ = some (.float .f64 cl.ndv) := cell_of_row _ _ _ _ _ _ H5.out.hb
          have b3 : w4.cell? ⟨bf, 3, none⟩ = some (.bool cl.has) := cell_of_row _ _ _ _ _ _ H5.out.hb
          go_upto_region 5 with fail
          go_cut [8, 9] from 23 to 26 (fun s8 s9 wx => ∃ n8 h9, s8 = .float .f64 n8 ∧ s9 = .bool h9 ∧ n8 = cl.ndv ∧ h9 = cl.has ∧ Below w4.heap.size w4 wx)
          case first =>
            go_region
            all_goals go_wp2
            all_goals go_meet
            all_goals (case rel => exact ⟨_, _, rfl, rfl, rfl, rfl, R0.out.drew⟩)
          case rest =>
            obtain ⟨n8, h9, rfl, rfl, e8, e9, hb⟩ := hcut
            have E8 : Hid (n8 = cl.ndv) := e8
            have E9 : Hid (h9 = cl.has) := e9
            have HB : Hid (Below w4.heap.size w4 wc) := hb
            clear hb b2 b3 R0 e8 e9
            go_upto_region 6 with fail
            go_cut [32] from 27 to 32 (fun t wx => t = .bool (cl.has && cr.has) ∧ Below w4.heap.size w4 wx)
            case first =>
              have b3 : wc.cell? ⟨bf, 3, none⟩ = some (.bool cl.has) := (HB.out.cell (p := ⟨bf, 3, none⟩) lt4).trans (cell_of_row _ _ _ _ _ _ H5.out.hb)
              have r3 : wc.cell? ⟨r, 3, none⟩ = some (.bool cr.has) := (HB.out.cell (p := ⟨r, 3, none⟩) lt3).trans (cell_of_row _ _ _ _ _ _ H5.out.hr)
              cases hh : cl.has
              · go_wp2
                go_meet
                case rel => exact ⟨by simp [hh], HB⟩
              · go_wp2
                go_meet
                case rel => exact ⟨by simp [hh], HB⟩
            case rest =>
              clear HB
              obtain ⟨rfl, hb⟩ := hcut
              have HB : Hid (Below w4.heap.size w4 wc) := hb
              clear hb
              go_upto_if 32 with fail
              go_cut [8, 9] from 10 to 72 (fun s8 s9 wx => ∃ nd, s8 = .float .f64 nd ∧ s9 = .bool cn.has ∧ feq cn.ndv nd = true ∧ Below w4.heap.size w4 wx)
              case first =>
                have b2 : wc.cell? ⟨bf, 2, none⟩ = some (.float .f64 cl.ndv) := (HB.out.cell (p := ⟨bf, 2, none⟩) lt4).trans (cell_of_row _ _ _ _ _ _ H5.out.hb)
                have r2 : wc.cell? ⟨r, 2, none⟩ = some (.float .f64 cr.ndv) := (HB.out.cell (p := ⟨r, 2, none⟩) lt3).trans (cell_of_row _ _ _ _ _ _ H5.out.hr)
                cases hhp : cl.has && cr.has
                · have r3 : wc.cell? ⟨r, 3, none⟩ = some (.bool cr.has) := (HB.out.cell (p := ⟨r, 3, none⟩) lt3).trans (cell_of_row _ _ _ _ _ _ H5.out.hr)
                  have b1 : wc.cell? ⟨bf, 1, none⟩ = some (.int .u8 cl.ty) := (HB.out.cell (p := ⟨bf, 1, none⟩) lt4).trans (cell_of_row _ _ _ _ _ _ H5.out.hb)
                  cases hp : cr.has
                  · have Q : Hid (cn.has = cl.has ∧ feq cn.ndv cl.ndv = true) := ndv_eqv HK.out.ndv (ndvR_none hhp hp)
                    go_wp2
                    go_meet
                    case rel => exact ⟨_, rfl, by rw [E9.out, Q.out.1], by rw [E8.out]; exact Q.out.2, HB⟩
                  · have HHP : Hid ((cl.has && cr.has) = false) := hhp
                    have HP : Hid (cr.has = true) := hp
                    go_wp2_with (go_at_call 8; refine (bcap_any _ _ _).mono ?_; rintro e w' ⟨x, n, rfl, rfl, hx⟩)
                    have Q := ndv_eqv HK.out.ndv (ndvR_cap HHP.out HP.out hx)
                    go_meet
                    case rel => exact ⟨_, rfl, by rw [Q.1], Q.2, below_drewN HB.out _⟩
                · have HHP : Hid ((cl.has && cr.has) = true) := hhp
                  go_upto_region 7 with fail
                  go_cut [10, 11] from 33 to 36 (fun s10 s11 wx => s10 = .float .f64 cl.ndv ∧ s11 = .float .f64 cr.ndv ∧ Below w4.heap.size w4 wx)
                  case first =>
                    go_region
                    all_goals go_wp2
                    all_goals go_meet
                    all_goals (case rel => exact ⟨rfl, rfl, HB.out.drew⟩)
                  case rest =>
                    clear HB b2 r2 hhp
                    obtain ⟨rfl, rfl, hb⟩ := hcut
                    have HB : Hid (Below w4.heap.size w4 wc) := hb
                    clear hb
                    go_upto_region 8 with fail
                    go_cut [12] from 37 to 43 (fun t wx => ∃ da, t = .float .f64 da ∧ DomR cl.ndv cl.dom cl.rows da ∧ Below w4.heap.size w4 wx)
                    case first =>
                      have b2 : wc.cell? ⟨bf, 2, none⟩ = some (.float .f64 cl.ndv) := (HB.out.cell (p := ⟨bf, 2, none⟩) lt4).trans (cell_of_row _ _ _ _ _ _ H5.out.hb)
                      have b15 : wc.cell? ⟨bf, 15, none⟩ = some (.float .f64 cl.dom) := (HB.out.cell (p := ⟨bf, 15, none⟩) lt4).trans (cell_of_row _ _ _ _ _ _ H5.out.hb)
                      have b16 : wc.cell? ⟨bf, 16, none⟩ = some (.float .f64 cl.rows) := (HB.out.cell (p := ⟨bf, 16, none⟩) lt4).trans (cell_of_row _ _ _ _ _ _ H5.out.hb)
                      go_wp2_with (go_at_call 7; refine (bdom_any _ _ _ _).mono ?_; rintro e w' ⟨x, n, rfl, rfl, hx⟩)
                      go_meet
                      case rel => exact ⟨_, rfl, hx, below_drewN HB.out _⟩
                    case rest =>
                      clear HB
                      obtain ⟨da, rfl, hda, hb⟩ := hcut
                      have HB : Hid (Below w4.heap.size w4 wc) := hb
                      have HDA : Hid (DomR cl.ndv cl.dom cl.rows da) := hda
                      clear hb hda
                      go_upto_region 9 with fail
                      go_cut [13] from 44 to 50 (fun t wx => ∃ db, t = .float .f64 db ∧ DomR cr.ndv cr.dom cr.rows db ∧ Below w4.heap.size w4 wx)
                      case first =>
                        have r2 : wc.cell? ⟨r, 2, none⟩ = some (.float .f64 cr.ndv) := (HB.out.cell (p := ⟨r, 2, none⟩) lt3).trans (cell_of_row _ _ _ _ _ _ H5.out.hr)
                        have r15 : wc.cell? ⟨r, 15, none⟩ = some (.float .f64 cr.dom) := (HB.out.cell (p := ⟨r, 15, none⟩) lt3).trans (cell_of_row _ _ _ _ _ _ H5.out.hr)
                        have r16 : wc.cell? ⟨r, 16, none⟩ = some (.float .f64 cr.rows) := (HB.out.cell (p := ⟨r, 16, none⟩) lt3).trans (cell_of_row _ _ _ _ _ _ H5.out.hr)
                        go_wp2_with (go_at_call 7; refine (bdom_any _ _ _ _).mono ?_; rintro e w' ⟨x, n, rfl, rfl, hx⟩)
                        go_meet
                        case rel => exact ⟨_, rfl, hx, below_drewN HB.out _⟩
                      case rest =>
                        clear HB
                        obtain ⟨db, rfl, hdb, hb⟩ := hcut
                        have HB : Hid (Below w4.heap.size w4 wc) := hb
                        have HDB : Hid (DomR cr.ndv cr.dom cr.rows db) := hdb
                        clear hb hdb
                        have Q : Hid (∀ x, SharedR cl.ndv da cr.ndv db x → cn.has = cl.has ∧ feq cn.ndv x = true) := fun x hx => ndv_eqv HK.out.ndv (ndvR_both HHP.out HDA.out HDB.out hx)
                        cases h1 : ltB da db
                        · have H1 : Hid (ltB da db = false) := h1
                          unfold ltB at h1
                          cases h2 : leB da 0
                          · have H2 : Hid (leB da 0 = false) := h2
                            unfold leB at h2
                            obtain ⟨q, n1, hr1, hq⟩ := run_div (P := Ybad.prog) 22 cl.ndv da wc
                            obtain ⟨x, n2, hr2, hx⟩ := run_mul (P := Ybad.prog) 22 cr.ndv q (wc.drewN n1)
                            have Z : Hid (cn.has = cl.has ∧ feq cn.ndv x = true) := Q.out x (shared_keep H1 (core_some H2 hq hx))
                            clear hq hx
                            go_wp2
                            go_meet
                            case rel => exact ⟨_, rfl, by rw [E9.out, Z.out.1], Z.out.2, below_drewN HB.out _⟩
                          · have H2 : Hid (leB da 0 = true) := h2
                            unfold leB at h2
                            have Z : Hid (cn.has = cl.has ∧ feq cn.ndv 0 = true) := Q.out 0 (shared_keep H1 (core_zero H2))
                            go_wp2
                            go_meet
                            case rel => exact ⟨_, rfl, by rw [E9.out, Z.out.1], Z.out.2, HB.out⟩
                        · have H1 : Hid (ltB da db = true) := h1
                          unfold ltB at h1
                          cases h2 : leB db 0
                          · have H2 : Hid (leB db 0 = false) := h2
                            unfold leB at h2
                            obtain ⟨q, n1, hr1, hq⟩ := run_div (P := Ybad.prog) 22 cr.ndv db wc
                            obtain ⟨x, n2, hr2, hx⟩ := run_mul (P := Ybad.prog) 22 cl.ndv q (wc.drewN n1)
                            have Z : Hid (cn.has = cl.has ∧ feq cn.ndv x = true) := Q.out x (shared_swap H1 (core_some H2 hq hx))
                            clear hq hx
                            go_wp2
                            go_meet
                            case rel => exact ⟨_, rfl, by rw [E9.out, Z.out.1], Z.out.2, below_drewN HB.out _⟩
                          · have H2 : Hid (leB db 0 = true) := h2
                            unfold leB at h2
                            have Z : Hid (cn.has = cl.has ∧ feq cn.ndv 0 = true) := Q.out 0 (shared_swap H1 (core_zero H2))
                            go_wp2
                            go_meet
                            case rel => exact ⟨_, rfl, by rw [E9.out, Z.out.1], Z.out.2, HB.out⟩
              case rest =>
                clear HB E8 E9
                obtain ⟨nd, rfl, rfl, hf, hb⟩ := hcut
                have HF : Hid (feq cn.ndv nd = true) := hf
                have HB : Hid (Below w4.heap.size w4 wc) := hb
                clear hb hf
                go_upto_region 19 with fail
                go_cut [14] from 73 to 74 (fun t wx => ∃ g, t = .pointer (some ⟨g, 0, none⟩) ∧ W5 w4 g cl.ik cl.inn cl.ist wx)
                case first =>
                  have b5 : wc.cell? ⟨bf, 5, none⟩ = some (.int .u8 cl.ik) := (HB.out.cell (p := ⟨bf, 5, none⟩) lt4).trans (cell_of_row _ _ _ _ _ _ H5.out.hb)
                  have b6 : wc.cell? ⟨bf, 6, none⟩ = some (.float .f64 cl.inn) := (HB.out.cell (p := ⟨bf, 6, none⟩) lt4).trans (cell_of_row _ _ _ _ _ _ H5.out.hb)
                  have b7 : wc.cell? ⟨bf, 7, none⟩ = some (.string cl.ist) := (HB.out.cell (p := ⟨bf, 7, none⟩) lt4).trans (cell_of_row _ _ _ _ _ _ H5.out.hb)
                  go_wp2
                  go_meet
                  case rel => exact ⟨_, rfl, W5.new HB.out _ _ _⟩
                case rest =>
                  obtain ⟨g, rfl, h6⟩ := hcut
                  have H6 : Hid (W5 w4 g cl.ik cl.inn cl.ist wc) := h6
                  clear h6 HB
                  go_upto_region 20 with fail
                  go_cut [92] from 75 to 92 (fun t wx => t = .bool (takeMin cl cr) ∧ W5 w4 g cl.ik cl.inn cl.ist wx)
                  case first =>
                    have HB : Hid (Below w4.heap.size w4 wc) := H6.out.bel
                    have b5 : wc.cell? ⟨bf, 5, none⟩ = some (.int .u8 cl.ik) := (HB.out.cell (p := ⟨bf, 5, none⟩) lt4).trans (cell_of_row _ _ _ _ _ _ H5.out.hb)
                    have b6 : wc.cell? ⟨bf, 6, none⟩ = some (.float .f64 cl.inn) := (HB.out.cell (p := ⟨bf, 6, none⟩) lt4).trans (cell_of_row _ _ _ _ _ _ H5.out.hb)
                    have b7 : wc.cell? ⟨bf, 7, none⟩ = some (.string cl.ist) := (HB.out.cell (p := ⟨bf, 7, none⟩) lt4).trans (cell_of_row _ _ _ _ _ _ H5.out.hb)
                    have r5 : wc.cell? ⟨r, 5, none⟩ = some (.int .u8 cr.ik) := (HB.out.cell (p := ⟨r, 5, none⟩) lt3).trans (cell_of_row _ _ _ _ _ _ H5.out.hr)
                    have r6 : wc.cell? ⟨r, 6, none⟩ = some (.float .f64 cr.inn) := (HB.out.cell (p := ⟨r, 6, none⟩) lt3).trans (cell_of_row _ _ _ _ _ _ H5.out.hr)
                    have r7 : wc.cell? ⟨r, 7, none⟩ = some (.string cr.ist) := (HB.out.cell (p := ⟨r, 7, none⟩) lt3).trans (cell_of_row _ _ _ _ _ _ H5.out.hr)
                    cases q0 : cr.ik != 0
                    · have hT : Hid (takeMin cl cr = false) := by unfold takeMin; rw [q0]; rfl
                      go_wp2
                      go_meet
                      case rel => exact ⟨by rw [hT.out], H6.out⟩
                    · cases q1 : cl.ik == 0
                      · have hT : Hid (takeMin cl cr = decide (0 < cmpV cr.ik cr.inn cr.ist cl.inn cl.ist)) := by unfold takeMin; rw [q0, q1]; rfl
                        go_wp2_with (go_at_call 9; refine (bcmp_any _ _ _ _ _ _ _).mono ?_; rintro e w' ⟨rfl, rfl⟩)
                        go_meet
                        case rel => exact ⟨by rw [hT.out], (H6.out.alloc' _).alloc' _⟩
                      · have hT : Hid (takeMin cl cr = true) := by unfold takeMin; rw [q0, q1]; rfl
                        go_wp2
                        go_meet
                        case rel => exact ⟨by rw [hT.out], H6.out⟩
                  case rest =>
                    clear H6
                    obtain ⟨rfl, h6⟩ := hcut
                    have H6 : Hid (W5 w4 g cl.ik cl.inn cl.ist wc) := h6
                    clear h6
                    go_upto_if 92 with fail
                    go_cut [] from 92 to 94 (fun wx => W5 w4 g cn.ik cn.inn cn.ist wx)
                    case first =>
                      have HB : Hid (Below w4.heap.size w4 wc) := H6.out.bel
                      have r5 : wc.cell? ⟨r, 5, none⟩ = some (.int .u8 cr.ik) := (HB.out.cell (p := ⟨r, 5, none⟩) lt3).trans (cell_of_row _ _ _ _ _ _ H5.out.hr)
                      have r6 : wc.cell? ⟨r, 6, none⟩ = some (.float .f64 cr.inn) := (HB.out.cell (p := ⟨r, 6, none⟩) lt3).trans (cell_of_row _ _ _ _ _ _ H5.out.hr)
                      have r7 : wc.cell? ⟨r, 7, none⟩ = some (.string cr.ist) := (HB.out.cell (p := ⟨r, 7, none⟩) lt3).trans (cell_of_row _ _ _ _ _ _ H5.out.hr)
                      have g0 : wc.cell? ⟨g, 0, none⟩ = some (.int .u8 cl.ik) := H6.out.cell 0
                      have f0 : wc.frozen? ⟨g, 0, none⟩ = false := H6.out.thaw 0
                      have g1 : wc.cell? ⟨g, 1, none⟩ = some (.float .f64 cl.inn) := H6.out.cell 1
                      have f1 : wc.frozen? ⟨g, 1, none⟩ = false := H6.out.thaw 1
                      have g2 : wc.cell? ⟨g, 2, none⟩ = some (.string cl.ist) := H6.out.cell 2
                      have f2 : wc.frozen? ⟨g, 2, none⟩ = false := H6.out.thaw 2
                      cases hT : takeMin cl cr
                      · have M : Hid (minCol cl cr = cl) := by unfold minCol; rw [hT]; rfl
                        go_wp2
                        go_meet
                        case rel => rw [HK.out.ik, HK.out.inn, HK.out.ist, M.out]; exact H6.out
                      · have M : Hid (minCol cl cr = { cl with ik := cr.ik, inn := cr.inn, ist := cr.ist }) := by unfold minCol; rw [hT]; rfl
                        go_wp2
                        go_meet
                        case rel => rw [HK.out.ik, HK.out.inn, HK.out.ist, M.out]; exact H6.out.set _ _ _
                    case rest =>
                      clear H6
                      have H6 : Hid (W5 w4 g cn.ik cn.inn cn.ist wc) := hcut
                      clear hcut
                      go_upto_region 22 with fail
                      go_cut [15] from 95 to 96 (fun t wx => ∃ k, t = .pointer (some ⟨k, 0, none⟩) ∧ g ≠ k ∧ W5 w4 g cn.ik cn.inn cn.ist wx ∧ W5 w4 k cl.ak cl.an cl.ast wx)
                      case first =>
                        have HB : Hid (Below w4.heap.size w4 wc) := H6.out.bel
                        have b8 : wc.cell? ⟨bf, 8, none⟩ = some (.int .u8 cl.ak) := (HB.out.cell (p := ⟨bf, 8, none⟩) lt4).trans (cell_of_row _ _ _ _ _ _ H5.out.hb)
                        have b9 : wc.cell? ⟨bf, 9, none⟩ = some (.float .f64 cl.an) := (HB.out.cell (p := ⟨bf, 9, none⟩) lt4).trans (cell_of_row _ _ _ _ _ _ H5.out.hb)
                        have b10 : wc.cell? ⟨bf, 10, none⟩ = some (.string cl.ast) := (HB.out.cell (p := ⟨bf, 10, none⟩) lt4).trans (cell_of_row _ _ _ _ _ _ H5.out.hb)
                        go_wp2
                        go_meet
                        case rel => exact ⟨_, rfl, Nat.ne_of_lt H6.out.lt, H6.out.alloc' _, W5.new HB.out _ _ _⟩
                      case rest =>
                        obtain ⟨k, rfl, nk, h6, h7⟩ := hcut
                        clear H6
                        have H6 : Hid (W5 w4 g cn.ik cn.inn cn.ist wc) := h6
                        have H7 : Hid (W5 w4 k cl.ak cl.an cl.ast wc) := h7
                        have NK : Hid (g ≠ k) := nk
                        clear h6 h7 nk
                        go_upto_region 23 with fail
                        go_cut [114] from 97 to 114 (fun t wx => t = .bool (takeMax cl cr) ∧ W5 w4 g cn.ik cn.inn cn.ist wx ∧ W5 w4 k cl.ak cl.an cl.ast wx)
                        case first =>
                          have HB : Hid (Below w4.heap.size w4 wc) := H6.out.bel
                          have b8 : wc.cell? ⟨bf, 8, none⟩ = some (.int .u8 cl.ak) := (HB.out.cell (p := ⟨bf, 8, none⟩) lt4).trans (cell_of_row _ _ _ _ _ _ H5.out.hb)
                          have b9 : wc.cell? ⟨bf, 9, none⟩ = some (.float .f64 cl.an) := (HB.out.cell (p := ⟨bf, 9, none⟩) lt4).trans (cell_of_row _ _ _ _ _ _ H5.out.hb)
                          have b10 : wc.cell? ⟨bf, 10, none⟩ = some (.string cl.ast) := (HB.out.cell (p := ⟨bf, 10, none⟩) lt4).trans (cell_of_row _ _ _ _ _ _ H5.out.hb)
                          have r8 : wc.cell? ⟨r, 8, none⟩ = some (.int .u8 cr.ak) := (HB.out.cell (p := ⟨r, 8, none⟩) lt3).trans (cell_of_row _ _ _ _ _ _ H5.out.hr)
                          have r9 : wc.cell? ⟨r, 9, none⟩ = some (.float .f64 cr.an) := (HB.out.cell (p := ⟨r, 9, none⟩) lt3).trans (cell_of_row _ _ _ _ _ _ H5.out.hr)
                          have r10 : wc.cell? ⟨r, 10, none⟩ = some (.string cr.ast) := (HB.out.cell (p := ⟨r, 10, none⟩) lt3).trans (cell_of_row _ _ _ _ _ _ H5.out.hr)
                          cases q0 : cr.ak != 0
                          · have hT : Hid (takeMax cl cr = false) := by unfold takeMax; rw [q0]; rfl
                            go_wp2
                            go_meet
                            case rel => exact ⟨by rw [hT.out], H6.out, H7.out⟩
                          · cases q1 : cl.ak == 0
                            · have hT : Hid (takeMax cl cr = decide (cmpV cr.ak cr.an cr.ast cl.an cl.ast < 0)) := by unfold takeMax; rw [q0, q1]; rfl
                              go_wp2_with (go_at_call 9; refine (bcmp_any _ _ _ _ _ _ _).mono ?_; rintro e w' ⟨rfl, rfl⟩)
                              go_meet
                              case rel => exact ⟨by rw [hT.out], (H6.out.alloc' _).alloc' _, (H7.out.alloc' _).alloc' _⟩
                            · have hT : Hid (takeMax cl cr = true) := by unfold takeMax; rw [q0, q1]; rfl
                              go_wp2
                              go_meet
                              case rel => exact ⟨by rw [hT.out], H6.out, H7.out⟩
                        case rest =>
                          clear H6 H7
                          obtain ⟨rfl, h6, h7⟩ := hcut
                          have H6 : Hid (W5 w4 g cn.ik cn.inn cn.ist wc) := h6
                          have H7 : Hid (W5 w4 k cl.ak cl.an cl.ast wc) := h7
                          clear h6 h7
                          go_upto_if 114 with fail
                          go_cut [] from 114 to 116 (fun wx => W5 w4 g cn.ik cn.inn cn.ist wx ∧ W5 w4 k cn.ak cn.an cn.ast wx)
                          case first =>
                            have HB : Hid (Below w4.heap.size w4 wc) := H6.out.bel
                            have r8 : wc.cell? ⟨r, 8, none⟩ = some (.int .u8 cr.ak) := (HB.out.cell (p := ⟨r, 8, none⟩) lt3).trans (cell_of_row _ _ _ _ _ _ H5.out.hr)
                            have r9 : wc.cell? ⟨r, 9, none⟩ = some (.float .f64 cr.an) := (HB.out.cell (p := ⟨r, 9, none⟩) lt3).trans (cell_of_row _ _ _ _ _ _ H5.out.hr)
                            have r10 : wc.cell? ⟨r, 10, none⟩ = some (.string cr.ast) := (HB.out.cell (p := ⟨r, 10, none⟩) lt3).trans (cell_of_row _ _ _ _ _ _ H5.out.hr)
                            have g0 : wc.cell? ⟨k, 0, none⟩ = some (.int .u8 cl.ak) := H7.out.cell 0
                            have f0 : wc.frozen? ⟨k, 0, none⟩ = false := H7.out.thaw 0
                            have g1 : wc.cell? ⟨k, 1, none⟩ = some (.float .f64 cl.an) := H7.out.cell 1
                            have f1 : wc.frozen? ⟨k, 1, none⟩ = false := H7.out.thaw 1
                            have g2 : wc.cell? ⟨k, 2, none⟩ = some (.string cl.ast) := H7.out.cell 2
                            have f2 : wc.frozen? ⟨k, 2, none⟩ = false := H7.out.thaw 2
                            cases hT : takeMax cl cr
                            · have M : Hid (maxCol cl cr = cl) := by unfold maxCol; rw [hT]; rfl
                              go_wp2
                              go_meet
                              case rel => rw [HK.out.ak, HK.out.an, HK.out.ast, M.out]; exact ⟨H6.out, H7.out⟩
                            · have M : Hid (maxCol cl cr = { cl with ak := cr.ak, an := cr.an, ast := cr.ast }) := by unfold maxCol; rw [hT]; rfl
                              go_wp2
                              go_meet
                              case rel => rw [HK.out.ak, HK.out.an, HK.out.ast, M.out]; exact ⟨((H6.out.other NK.out H7.out.ge _ _).other NK.out H7.out.ge _ _).other NK.out H7.out.ge _ _, H7.out.set _ _ _⟩
                          case rest =>
                            obtain ⟨h6, h7⟩ := hcut
                            clear H6 H7
                            have H6 : Hid (W5 w4 g cn.ik cn.inn cn.ist wc) := h6
                            have H7 : Hid (W5 w4 k cn.ak cn.an cn.ast wc) := h7
                            clear h6 h7
                            have ls : w.heap.size + 1 < w4.heap.size := Nat.lt_trans lt1 lt2
                            go_upto_region 25 with fail
                            go_cut [132] from 117 to 132 (fun t wx => t = .bool false ∧ W5 w4 g cn.ik cn.inn cn.ist wx ∧ W5 w4 k cn.ak cn.an cn.ast wx)
                            case first =>
                              have HB : Hid (Below w4.heap.size w4 wc) := H6.out.bel
                              have l2 : wc.cell? ⟨l, 2, none⟩ = some (.float .f64 cn.ndv) := by
                                rw [HB.out.cell (p := ⟨l, 2, none⟩) lt2, show w4.cell? ⟨l, 2, none⟩ = some (.float .f64 cn.ndv) from cell_of_row _ _ _ _ _ _ H5.out.hl]
                              have l3 : wc.cell? ⟨l, 3, none⟩ = some (.bool cn.has) := by
                                rw [HB.out.cell (p := ⟨l, 3, none⟩) lt2, show w4.cell? ⟨l, 3, none⟩ = some (.bool cn.has) from cell_of_row _ _ _ _ _ _ H5.out.hl]
                              have l4 : wc.cell? ⟨l, 4, none⟩ = some (.float .f64 0) := by
                                rw [HB.out.cell (p := ⟨l, 4, none⟩) lt2, show w4.cell? ⟨l, 4, none⟩ = some (.float .f64 cn.nul) from cell_of_row _ _ _ _ _ _ H5.out.hl, HK.out.nul]
                              have z := z0
                              have hf := HF.out
                              go_wp2_with (go_at_call 10; refine (feq_any _ _ _).mono ?_; rintro e w' ⟨rfl, rfl⟩)
                              go_meet
                              case rel => exact ⟨rfl, H6.out, H7.out⟩
                            case rest =>
                              clear H6 H7
                              obtain ⟨rfl, h6, h7⟩ := hcut
                              have H6 : Hid (W5 w4 g cn.ik cn.inn cn.ist wc) := h6
                              have H7 : Hid (W5 w4 k cn.ak cn.an cn.ast wc) := h7
                              clear h6 h7
                              go_upto_region 27 with fail
                              go_cut [140] from 133 to 140 (fun t wx => t = .bool false ∧ W5 w4 g cn.ik cn.inn cn.ist wx ∧ W5 w4 k cn.ak cn.an cn.ast wx)
                              case first =>
                                have HB : Hid (Below w4.heap.size w4 wc) := H6.out.bel
                                have l15 : wc.cell? ⟨l, 15, none⟩ = some (.float .f64 0) := by
                                  rw [HB.out.cell (p := ⟨l, 15, none⟩) lt2, show w4.cell? ⟨l, 15, none⟩ = some (.float .f64 cn.dom) from cell_of_row _ _ _ _ _ _ H5.out.hl, HK.out.dom]
                                have l16 : wc.cell? ⟨l, 16, none⟩ = some (.float .f64 0) := by
                                  rw [HB.out.cell (p := ⟨l, 16, none⟩) lt2, show w4.cell? ⟨l, 16, none⟩ = some (.float .f64 cn.rows) from cell_of_row _ _ _ _ _ _ H5.out.hl, HK.out.rows]
                                have z := z0
                                go_wp2
                                go_meet
                                case rel => exact ⟨rfl, H6.out, H7.out⟩
                              case rest =>
                                clear H6 H7
                                obtain ⟨rfl, h6, h7⟩ := hcut
                                have H6 : Hid (W5 w4 g cn.ik cn.inn cn.ist wc) := h6
                                have H7 : Hid (W5 w4 k cn.ak cn.an cn.ast wc) := h7
                                clear h6 h7
                                go_upto_region 29 with fail
                                go_cut [152] from 141 to 152 (fun t wx => t = .bool false ∧ W5 w4 g cn.ik cn.inn cn.ist wx ∧ W5 w4 k cn.ak cn.an cn.ast wx)
                                case first =>
                                  have HB : Hid (Below w4.heap.size w4 wc) := H6.out.bel
                                  have l5 : wc.cell? ⟨l, 5, none⟩ = some (.int .u8 cn.ik) := by
                                    rw [HB.out.cell (p := ⟨l, 5, none⟩) lt2, show w4.cell? ⟨l, 5, none⟩ = some (.int .u8 cn.ik) from cell_of_row _ _ _ _ _ _ H5.out.hl]
                                  have l6 : wc.cell? ⟨l, 6, none⟩ = some (.float .f64 cn.inn) := by
                                    rw [HB.out.cell (p := ⟨l, 6, none⟩) lt2, show w4.cell? ⟨l, 6, none⟩ = some (.float .f64 cn.inn) from cell_of_row _ _ _ _ _ _ H5.out.hl]
                                  have l7 : wc.cell? ⟨l, 7, none⟩ = some (.string cn.ist) := by
                                    rw [HB.out.cell (p := ⟨l, 7, none⟩) lt2, show w4.cell? ⟨l, 7, none⟩ = some (.string cn.ist) from cell_of_row _ _ _ _ _ _ H5.out.hl]
                                  have l8 : wc.cell? ⟨l, 8, none⟩ = some (.int .u8 cn.ak) := by
                                    rw [HB.out.cell (p := ⟨l, 8, none⟩) lt2, show w4.cell? ⟨l, 8, none⟩ = some (.int .u8 cn.ak) from cell_of_row _ _ _ _ _ _ H5.out.hl]
                                  have l9 : wc.cell? ⟨l, 9, none⟩ = some (.float .f64 cn.an) := by
                                    rw [HB.out.cell (p := ⟨l, 9, none⟩) lt2, show w4.cell? ⟨l, 9, none⟩ = some (.float .f64 cn.an) from cell_of_row _ _ _ _ _ _ H5.out.hl]
                                  have l10 : wc.cell? ⟨l, 10, none⟩ = some (.string cn.ast) := by
                                    rw [HB.out.cell (p := ⟨l, 10, none⟩) lt2, show w4.cell? ⟨l, 10, none⟩ = some (.string cn.ast) from cell_of_row _ _ _ _ _ _ H5.out.hl]
                                  have g0 : wc.cell? ⟨g, 0, none⟩ = some (.int .u8 cn.ik) := H6.out.cell 0
                                  have g1 : wc.cell? ⟨g, 1, none⟩ = some (.float .f64 cn.inn) := H6.out.cell 1
                                  have g2 : wc.cell? ⟨g, 2, none⟩ = some (.string cn.ist) := H6.out.cell 2
                                  have k0 : wc.cell? ⟨k, 0, none⟩ = some (.int .u8 cn.ak) := H7.out.cell 0
                                  have k1 : wc.cell? ⟨k, 1, none⟩ = some (.float .f64 cn.an) := H7.out.cell 1
                                  have k2 : wc.cell? ⟨k, 2, none⟩ = some (.string cn.ast) := H7.out.cell 2
                                  have gz := H6.out.lt
                                  have kz := H7.out.lt
                                  have lz : l < wc.heap.size := Nat.lt_of_lt_of_le lt2 HB.out.size
                                  go_wp2_with (go_at_call 11; refine (bveq_self _ _ _ _).mono ?_; rintro e w' ⟨rfl, rfl⟩)
                                  go_meet
                                  case rel => exact ⟨rfl, (((H6.out.alloc' _).alloc' _).alloc' _).alloc' _, (((H7.out.alloc' _).alloc' _).alloc' _).alloc' _⟩
                                case rest =>
                                  clear H6 H7
                                  obtain ⟨rfl, h6, h7⟩ := hcut
                                  have H6 : Hid (W5 w4 g cn.ik cn.inn cn.ist wc) := h6
                                  have H7 : Hid (W5 w4 k cn.ak cn.an cn.ast wc) := h7
                                  clear h6 h7
                                  go_upto_region 31 with fail
                                  go_cut [160] from 153 to 160 (fun t wx => t = .bool false ∧ W5 w4 g cn.ik cn.inn cn.ist wx ∧ W5 w4 k cn.ak cn.an cn.ast wx)
                                  case first =>
                                    have HB : Hid (Below w4.heap.size w4 wc) := H6.out.bel
                                    have l13 : wc.cell? ⟨l, 13, none⟩ = some (.slice none 0 0) := by
                                      rw [HB.out.cell (p := ⟨l, 13, none⟩) lt2, show w4.cell? ⟨l, 13, none⟩ = some (.slice cn.ma cn.ml cn.mc) from cell_of_row _ _ _ _ _ _ H5.out.hl, HK.out.ma, HK.out.ml, HK.out.mc]
                                    have l14 : wc.cell? ⟨l, 14, none⟩ = some (.slice none 0 0) := by
                                      rw [HB.out.cell (p := ⟨l, 14, none⟩) lt2, show w4.cell? ⟨l, 14, none⟩ = some (.slice cn.ha cn.hl cn.hc) from cell_of_row _ _ _ _ _ _ H5.out.hl, HK.out.ha, HK.out.hl, HK.out.hc]
                                    have N1 := fun w' a b c => run_neq_slice_nil_any (P := Ybad.prog) w' 29 _ a b c 0 0 Ybad.underlying29
                                    have N2 := fun w' a b c => run_neq_slice_nil_any (P := Ybad.prog) w' 30 _ a b c 0 0 Ybad.underlying30
                                    go_wp2
                                    go_meet
                                    case rel => exact ⟨rfl, H6.out, H7.out⟩
                                  case rest =>
                                    clear H6 H7
                                    obtain ⟨rfl, h6, h7⟩ := hcut
                                    have H6 : Hid (W5 w4 g cn.ik cn.inn cn.ist wc) := h6
                                    have H7 : Hid (W5 w4 k cn.ak cn.an cn.ast wc) := h7
                                    clear h6 h7
                                    go_upto_region 33 with fail
                                    go_cut [185] from 161 to 185 (fun t wx => t = .bool false ∧ W5 w4 g cn.ik cn.inn cn.ist wx ∧ W5 w4 k cn.ak cn.an cn.ast wx)
                                    case first =>
                                      have HB : Hid (Below w4.heap.size w4 wc) := H6.out.bel
                                      have l0 : wc.cell? ⟨l, 0, none⟩ = some (.string ⟨#[97]⟩) := by
                                        rw [HB.out.cell (p := ⟨l, 0, none⟩) lt2, show w4.cell? ⟨l, 0, none⟩ = some (.string cn.nm) from cell_of_row _ _ _ _ _ _ H5.out.hl, HK.out.nm, HCL.out.1]
                                      have l1 : wc.cell? ⟨l, 1, none⟩ = some (.int .u8 cl.ty) := by
                                        rw [HB.out.cell (p := ⟨l, 1, none⟩) lt2, show w4.cell? ⟨l, 1, none⟩ = some (.int .u8 cn.ty) from cell_of_row _ _ _ _ _ _ H5.out.hl, HK.out.ty]
                                      have l11 : wc.cell? ⟨l, 11, none⟩ = some (.float .f64 cl.tf) := by
                                        rw [HB.out.cell (p := ⟨l, 11, none⟩) lt2, show w4.cell? ⟨l, 11, none⟩ = some (.float .f64 cn.tf) from cell_of_row _ _ _ _ _ _ H5.out.hl, HK.out.tf]
                                      have l12 : wc.cell? ⟨l, 12, none⟩ = some (.bool cl.ht) := by
                                        rw [HB.out.cell (p := ⟨l, 12, none⟩) lt2, show w4.cell? ⟨l, 12, none⟩ = some (.bool cn.ht) from cell_of_row _ _ _ _ _ _ H5.out.hl, HK.out.ht]
                                      have b1 : wc.cell? ⟨bf, 1, none⟩ = some (.int .u8 cl.ty) := by
                                        rw [HB.out.cell (p := ⟨bf, 1, none⟩) lt4, show w4.cell? ⟨bf, 1, none⟩ = some (.int .u8 cl.ty) from cell_of_row _ _ _ _ _ _ H5.out.hb]
                                      have b11 : wc.cell? ⟨bf, 11, none⟩ = some (.float .f64 cl.tf) := by
                                        rw [HB.out.cell (p := ⟨bf, 11, none⟩) lt4, show w4.cell? ⟨bf, 11, none⟩ = some (.float .f64 cl.tf) from cell_of_row _ _ _ _ _ _ H5.out.hb]
                                      have b12 : wc.cell? ⟨bf, 12, none⟩ = some (.bool cl.ht) := by
                                        rw [HB.out.cell (p := ⟨bf, 12, none⟩) lt4, show w4.cell? ⟨bf, 12, none⟩ = some (.bool cl.ht) from cell_of_row _ _ _ _ _ _ H5.out.hb]
                                      have f1 := feq_of_eqv (Eqv.refl cl.tf)
                                      go_wp2_with (go_at_call 10; refine (feq_any _ _ _).mono ?_; rintro e w' ⟨rfl, rfl⟩)
                                      go_meet
                                      case rel => exact ⟨rfl, H6.out, H7.out⟩
                                    case rest =>
                                      clear H6 H7
                                      obtain ⟨rfl, h6, h7⟩ := hcut
                                      have H6 : Hid (W5 w4 g cn.ik cn.inn cn.ist wc) := h6
                                      have H7 : Hid (W5 w4 k cn.ak cn.an cn.ast wc) := h7
                                      clear h6 h7
                                      go_upto_region 35 with fail
                                      go_cut [211] from 186 to 211 (fun t wx => t = .bool false ∧ W5 w4 g cn.ik cn.inn cn.ist wx ∧ W5 w4 k cn.ak cn.an cn.ast wx)
                                      case first =>
                                        have HB : Hid (Below w4.heap.size w4 wc) := H6.out.bel
                                        have r4 : wc.cell? ⟨r, 4, none⟩ = some (.float .f64 sb.nul) := by
                                          rw [HB.out.cell (p := ⟨r, 4, none⟩) lt3, show w4.cell? ⟨r, 4, none⟩ = some (.float .f64 cr.nul) from cell_of_row _ _ _ _ _ _ H5.out.hr, HCR.out.2.2.1]
                                        have r13 : wc.cell? ⟨r, 13, none⟩ = some (.slice cr.ma cr.ml cr.mc) := by
                                          rw [HB.out.cell (p := ⟨r, 13, none⟩) lt3, show w4.cell? ⟨r, 13, none⟩ = some (.slice cr.ma cr.ml cr.mc) from cell_of_row _ _ _ _ _ _ H5.out.hr]
                                        have r14 : wc.cell? ⟨r, 14, none⟩ = some (.slice cr.ha cr.hl cr.hc) := by
                                          rw [HB.out.cell (p := ⟨r, 14, none⟩) lt3, show w4.cell? ⟨r, 14, none⟩ = some (.slice cr.ha cr.hl cr.hc) from cell_of_row _ _ _ _ _ _ H5.out.hr]
                                        have s3 : wc.cell? ⟨w.heap.size + 1, 3, none⟩ = some (.float .f64 sb.nul) := by
                                          rw [HB.out.cell (p := ⟨w.heap.size + 1, 3, none⟩) ls, show w4.cell? ⟨w.heap.size + 1, 3, none⟩ = some (.float .f64 sb.nul) from cell_of_row _ _ _ _ _ _ H5.out.hs]
                                        have s14 : wc.cell? ⟨w.heap.size + 1, 14, none⟩ = some (.int .u8 sb.nm) := by
                                          rw [HB.out.cell (p := ⟨w.heap.size + 1, 14, none⟩) ls, show w4.cell? ⟨w.heap.size + 1, 14, none⟩ = some (.int .u8 sb.nm) from cell_of_row _ _ _ _ _ _ H5.out.hs]
                                        have s15 : wc.cell? ⟨w.heap.size + 1, 15, none⟩ = some (.int .u8 sb.nh) := by
                                          rw [HB.out.cell (p := ⟨w.heap.size + 1, 15, none⟩) ls, show w4.cell? ⟨w.heap.size + 1, 15, none⟩ = some (.int .u8 sb.nh) from cell_of_row _ _ _ _ _ _ H5.out.hs]
                                        have f2 := feq_of_eqv (Eqv.refl sb.nul)
                                        have nm0 := ob.nm0
                                        have nh0 := ob.nh0
                                        have em : sb.nm % 4 = (cr.ml : Int) := HCR.out.2.2.2.1.symm
                                        have eh : sb.nh % 4 = (cr.hl : Int) := HCR.out.2.2.2.2.symm
                                        have em4 : (cr.ml : Int) < 4 := by rw [← em]; exact Int.emod_lt_of_pos _ (by decide)
                                        have eh4 : (cr.hl : Int) < 4 := by rw [← eh]; exact Int.emod_lt_of_pos _ (by decide)
                                        go_wp2_with (go_at_call 10; refine (feq_any _ _ _).mono ?_; rintro e w' ⟨rfl, rfl⟩)
                                        go_meet
                                        case rel => exact ⟨rfl, H6.out, H7.out⟩
                                      case rest =>
                                        clear H6 H7
                                        obtain ⟨rfl, h6, h7⟩ := hcut
                                        have H6 : Hid (W5 w4 g cn.ik cn.inn cn.ist wc) := h6
                                        have H7 : Hid (W5 w4 k cn.ak cn.an cn.ast wc) := h7
                                        clear h6 h7
                                        go_wp2
                                        go_ret
                                        exact ⟨rfl, H5.out.bel.trans (H6.out.bel.mono H5.out.bel.size)⟩
end Go.Proofs.YbulkbspoDoor
