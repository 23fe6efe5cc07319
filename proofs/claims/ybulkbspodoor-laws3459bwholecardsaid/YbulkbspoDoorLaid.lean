/-
  What the listed table 'types' gives the walks; the witness's world.
-/
import Derived.Test.YbulkbspoDoorOpen
namespace Go.Proofs.YbulkbspoDoor
open Go.ChangeShapes Go.WideShapes Go.ChangeAt Go.RowKit Go.Deep

abbrev laid1 : List (String × DataW Unit) := Rows.lawS3459BMeetRow.laid
/-- The table's name, as the given row has it. -/
def nmTypes : String := (laid1.map (·.1)).getD 0 default
theorem gTypes : Ybad.prog.globalNamed nmTypes = some 0 := by kernel_rfl
theorem tTypes : (Ybad.prog.globals[0]?).map (·.type) = some 55 := by kernel_rfl
theorem cells54 : Ybad.prog.cellsOf 54 = 4 := by kernel_rfl
theorem cells22 : Ybad.prog.cellsOf 22 = 1 := by kernel_rfl
theorem cells55 : Ybad.prog.cellsOf 55 = 52 := by kernel_rfl

/-- The third part of each of the table's thirteen rows. -/
def rowsD : List (DataW Unit) := match (Rows.laid_example_com_ballpark_ballpark_types : DataW Unit) with | .agg l => l | _ => []
theorem rows_third (i : Nat) (hi : i < 13) : ∃ a b c, rowsD[i]? = some (.agg [a, b, .lit (.float .f64 (tabN i)), c]) := by
  match i, hi with
  | 0, _ => exact ⟨_, _, _, rfl⟩
  | 1, _ => exact ⟨_, _, _, rfl⟩
  | 2, _ => exact ⟨_, _, _, rfl⟩
  | 3, _ => exact ⟨_, _, _, rfl⟩
  | 4, _ => exact ⟨_, _, _, rfl⟩
  | 5, _ => exact ⟨_, _, _, rfl⟩
  | 6, _ => exact ⟨_, _, _, rfl⟩
  | 7, _ => exact ⟨_, _, _, rfl⟩
  | 8, _ => exact ⟨_, _, _, rfl⟩
  | 9, _ => exact ⟨_, _, _, rfl⟩
  | 10, _ => exact ⟨_, _, _, rfl⟩
  | 11, _ => exact ⟨_, _, _, rfl⟩
  | 12, _ => exact ⟨_, _, _, rfl⟩

theorem tab_of_laid {W : World} (h : laidMetH Ybad.prog laid1 W) : Tab W ∧ 0 < W.heap.size := by
  rw [MakeChecks.laidMetH_plain _ _ _ (by kernel_rfl)] at h
  obtain ⟨ps, ⟨g0, t0, cs0, f0, p0, q0, hg0, ht0, hv0, hd0, _, _⟩, _, _⟩ := h
  obtain rfl := Option.some.inj (gTypes.symm.trans hg0)
  obtain rfl := Option.some.inj (tTypes.symm.trans ht0)
  have hcell : ∀ j, W.cell? ⟨0, j, none⟩ = cs0[j]? := World.var?_cell hg0 hv0
  obtain ⟨xs, m1, rfl, hx1, hlen, hn, hel⟩ := DataW.trod_array Ybad.underlying55 hd0
  have hx : rowsD = xs.map (·.1) := by
    have := congrArg (fun z : DataW Unit × List MemPlace => match z.1 with | .agg l => l | _ => []) hx1
    exact this
  have hT : Tab W := by
    intro i hi
    rw [hcell]
    have h1 := hel i hi
    rw [cells54, List.getElem?_eq_getElem (show i < xs.length by omega)] at h1
    obtain ⟨ys, m2, _, hy, hl2, hlen2, hf2⟩ := DataW.trod_struct Ybad.underlying54 h1
    have h2 : DataW.trod _ Ybad.prog W 0 (fun _ => true) false m2 22 (((List.take 4 (List.drop (i * 4) cs0.toList)).drop 2).take (Ybad.prog.cellsOf 22)) = ys[2]? := hf2 2 _ rfl
    rw [cells22] at h2
    have hlen2' : ys.length = 4 := hlen2
    rw [List.getElem?_eq_getElem (show 2 < ys.length by omega)] at h2
    obtain ⟨b, hb⟩ := trod_float Ybad.underlying22 h2
    rw [hb] at h2
    have hd := trod_float_datum Ybad.underlying22 h2
    obtain ⟨a1, a2, a3, hr⟩ := rows_third i hi
    rw [hx, List.getElem?_map, List.getElem?_eq_getElem (show i < xs.length by omega), hy] at hr
    simp only [Option.map_some, Option.some.injEq, DataW.agg.injEq] at hr
    have h3 : (ys.map (·.1))[2]? = some (DataW.lit (.float .f64 (tabN i))) := by rw [hr]; rfl
    rw [List.getElem?_map, List.getElem?_eq_getElem (show 2 < ys.length by omega)] at h3
    simp only [Option.map_some, Option.some.injEq] at h3
    rw [hd] at h3
    have hbt : b = tabN i := by simpa using h3
    subst hbt
    have h4 : cs0.toList[i * 4 + 2]? = some (.float .f64 (tabN i)) := by
      have : ((List.take 4 (List.drop (i * 4) cs0.toList)).drop 2).take 1 = [.float .f64 (tabN i)] := hb
      have h5 := congrArg (fun l : List Value => l[0]?) this
      simpa [List.getElem?_take, List.getElem?_drop] using h5
    simpa using h4
  refine ⟨hT, ?_⟩
  have := hT 0 (by decide)
  exact Nat.lt_of_le_of_lt (Nat.zero_le _) (World.block_lt_of_cell? _ _ this)

/-- The door's own heap meets the condition. -/
theorem door_met (os : Os) (args : Array Value) : laidMetH Ybad.prog laid1 ((World.doorLaid Ybad.prog 26 os).forCall (fun _ _ => 0) ⟨#[], args, []⟩).memory :=
  laidMetH_of_parts3 (fuel := 8) (laidMet_of_run' 8 (by kernel_rfl) (by kernel_rfl)) (by kernel_rfl) (by kernel_rfl)

theorem var?_kept {P : Program} {B g : Nat} {W W' : World} {n : String} {cs : Array Value} (h : Below B W W') (hg : P.globalNamed n = some g) (hgB : g < B) (hv : W.var? P n = some cs) : W'.var? P n = some cs := by
  unfold World.var? at hv ⊢
  simp only [hg, Option.bind_some] at hv ⊢
  rw [h.block g hgB]
  exact hv
end Go.Proofs.YbulkbspoDoor
