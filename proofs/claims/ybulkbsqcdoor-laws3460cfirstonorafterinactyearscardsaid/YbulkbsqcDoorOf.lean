/-
  The condition on the five listed variables gives the walks what they want; the door's own heap meets it.
-/
import Derived.Test.YbulkbsqcDoorLaid
namespace Go.Proofs.YbulkbsqcDoor
open Go.ChangeShapes Go.WideShapes Go.ChangeAt Go.RowKit Go.Deep

abbrev laid5 : List (String × DataW Unit) := Rows.lawS3460CFirstOnOrAfterRow.laid
/-- The listed variables' names, as the given row has them. -/
def nm (i : Nat) : String := (laid5.map (·.1)).getD i default
theorem gSub : Ybad.prog.globalNamed (nm 0) = some 2 := by kernel_rfl
theorem gCit : Ybad.prog.globalNamed (nm 1) = some 0 := by kernel_rfl
theorem gRun : Ybad.prog.globalNamed (nm 2) = some 3 := by kernel_rfl
theorem gRul : Ybad.prog.globalNamed (nm 3) = some 1 := by kernel_rfl
theorem gFit : Ybad.prog.globalNamed (nm 4) = some 4 := by kernel_rfl
theorem tCit : (Ybad.prog.globals[0]?).map (·.type) = some 24 := by kernel_rfl
theorem tRul : (Ybad.prog.globals[1]?).map (·.type) = some 39 := by kernel_rfl
theorem tSub : (Ybad.prog.globals[2]?).map (·.type) = some 24 := by kernel_rfl
theorem tRun : (Ybad.prog.globals[3]?).map (·.type) = some 24 := by kernel_rfl
theorem tFit : (Ybad.prog.globals[4]?).map (·.type) = some 45 := by kernel_rfl


theorem add_plain (b o k : Nat) : (⟨b, o, none⟩ : Addr).add k = ⟨b, o + k, none⟩ := by
  unfold Addr.add
  split
  · rename_i h; subst h; rfl
  · rfl
theorem of_laid {W : World} (h : laidMetH Ybad.prog laid5 W) : ∃ rb ro fb fo, LD rb ro fb fo W := by
  rw [MakeChecks.laidMetH_plain _ _ _ (by kernel_rfl)] at h
  obtain ⟨ps, ⟨g0, t0, cs0, f0, p0, q0, hg0, ht0, hv0, hd0, ⟨g1, t1, cs1, f1, p1, q1, hg1, ht1, hv1, hd1, ⟨g2, t2, cs2, f2, p2, q2, hg2, ht2, hv2, hd2, ⟨g3, t3, cs3, f3, p3, q3, hg3, ht3, hv3, hd3, ⟨g4, t4, cs4, f4, p4, q4, hg4, ht4, hv4, hd4, _, _⟩, _⟩, _⟩, _⟩, _⟩, _, _⟩ := h
  obtain rfl := Option.some.inj (gSub.symm.trans hg0)
  obtain rfl := Option.some.inj (gCit.symm.trans hg1)
  obtain rfl := Option.some.inj (gRun.symm.trans hg2)
  obtain rfl := Option.some.inj (gRul.symm.trans hg3)
  obtain rfl := Option.some.inj (gFit.symm.trans hg4)
  obtain rfl := Option.some.inj (tSub.symm.trans ht0)
  obtain rfl := Option.some.inj (tCit.symm.trans ht1)
  obtain rfl := Option.some.inj (tRun.symm.trans ht2)
  obtain rfl := Option.some.inj (tRul.symm.trans ht3)
  obtain rfl := Option.some.inj (tFit.symm.trans ht4)
  have v0 : W.cell? ⟨2, 0, none⟩ = cs0[0]? := World.var?_cell hg0 hv0 0
  have v1 : W.cell? ⟨0, 0, none⟩ = cs1[0]? := World.var?_cell hg1 hv1 0
  have v2 : W.cell? ⟨3, 0, none⟩ = cs2[0]? := World.var?_cell hg2 hv2 0
  have v3 : W.cell? ⟨1, 0, none⟩ = cs3[0]? := World.var?_cell hg3 hv3 0
  have v4 : W.cell? ⟨4, 0, none⟩ = cs4[0]? := World.var?_cell hg4 hv4 0
  rw [← Array.getElem?_toList] at v0 v1 v2 v3 v4
  rw [show cs0.toList[0]? = some (.int .i64 1197) from date_cell hd0] at v0
  rw [show cs1.toList[0]? = some (.int .i64 5839) from date_cell hd1] at v1
  rw [show cs2.toList[0]? = some (.int .i64 13514) from date_cell hd2] at v2
  rw [rulesD] at hd3
  rw [fitsD] at hd4
  obtain ⟨a, n, hc3, hr⟩ := slice_rows Ybad.underlying39 hd3
  obtain ⟨b, m, hc4, hf⟩ := slice_rows Ybad.underlying45 hd4
  rw [cells41] at hr
  rw [cells46] at hf
  rw [hc3] at v3
  rw [hc4] at v4
  have v3' : W.cell? ⟨1, 0, none⟩ = some (.slice (some a) 38 38) := v3
  have v4' : W.cell? ⟨4, 0, none⟩ = some (.slice (some b) 3 3) := v4
  have hrc : ∀ (i : Nat) (r : Cal.Rule), Cal.rules[i]? = some r → ∀ j, j < 6 → W.cell? ((a.add (i * 6)).add j) = (RC r)[j]? := by
    intro i r hi j hj
    obtain ⟨cs', q', h1, h2⟩ := hr i (ruleD r) (by rw [List.getElem?_map, hi]; rfl)
    rw [cells_get h1 j hj]
    exact rule_cells h2 j hj
  have hfc : ∀ (i : Nat) (x : Int × Int × Int), fitRows[i]? = some x → W.cell? ((b.add (i * 3)).add 0) = some (.int .i64 x.1) ∧ W.cell? ((b.add (i * 3)).add 1) = some (.int .i64 x.2.1) ∧ W.cell? ((b.add (i * 3)).add 2) = some (.int .i64 x.2.2) := by
    intro i x hi
    obtain ⟨cs', q', h1, h2⟩ := hf i (fitD x) (by rw [List.getElem?_map, hi]; rfl)
    obtain ⟨e0, e1, e2⟩ := fit_cells h2
    exact ⟨by rw [cells_get h1 0 (by omega)]; exact e0, by rw [cells_get h1 1 (by omega)]; exact e1, by rw [cells_get h1 2 (by omega)]; exact e2⟩
  obtain ⟨ab, ao, s1⟩ := a
  obtain ⟨bb, bo, s2⟩ := b
  obtain ⟨k0, k1, k2⟩ := hfc 0 _ rfl
  obtain ⟨l0, l1, l2⟩ := hfc 1 _ rfl
  obtain ⟨m0, m1, m2⟩ := hfc 2 _ rfl
  have sa : s1 = none := spot_none (show W.cell? ⟨ab, ao + 0 * 6 + 0, s1⟩ = some (.int .i64 1949) from hrc 0 _ rfl 0 (by omega))
  have sb : s2 = none := spot_none (show W.cell? ⟨bb, bo + 0 * 3 + 0, s2⟩ = some (.int .i64 1900) from k0)
  subst sa
  subst sb
  refine ⟨ab, ao, bb, bo, ?_, ?_, ?_, ⟨v4', k0, k1, k2, l0, l1, l2, m0, m1, m2⟩, v3', ?_, v1, v0, v2⟩
  · exact World.block_lt_of_cell? _ _ v4'
  · exact World.block_lt_of_cell? _ _ (show W.cell? ⟨ab, ao + 0 * 6 + 0, none⟩ = some (.int .i64 1949) from hrc 0 _ rfl 0 (by omega))
  · exact World.block_lt_of_cell? _ _ (show W.cell? ⟨bb, bo + 0 * 3 + 0, none⟩ = some (.int .i64 1900) from k0)
  · intro i r hi j hj
    have := hrc i r hi j hj
    rw [add_plain, add_plain, Nat.add_assoc] at this
    exact this

end Go.Proofs.YbulkbsqcDoor
