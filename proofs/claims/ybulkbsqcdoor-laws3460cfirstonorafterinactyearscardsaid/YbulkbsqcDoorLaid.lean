/-
  What the five listed variables give the walks; the witness's world.
-/
import Derived.Test.YbulkbsqcDoorYears
import Derived.Test.YbulkbsqcDoorTie
import Derived.ProofKit
import Derived.LaidMore
import Derived.OpenShut
import Derived.Deep.Fields
import Derived.Stop.Joined
namespace Go.Proofs.YbulkbsqcDoor
open Go.ChangeShapes Go.WideShapes Go.ChangeAt Go.RowKit Go.Deep

theorem own : ownKnob Ybad.prog.godebug = none := by kernel_rfl
theorem laidOut : laidOutB Ybad.prog = true := by kernel_rfl

section
variable {H : Type} {enc : TypeId × Value → H} {P : Program} {w : World} {base : Nat} {spare : Nat → Bool} {held : Bool}
theorem trod_bool {t : TypeId} {fuel : Nat} {cs : List Value} {x : DataW H × List MemPlace} (ht : P.underlying t = some .bool) (h : DataW.trod enc P w base spare held fuel t cs = some x) : ∃ b, cs = [.bool b] ∧ x = (.lit (.bool b), []) := by
  cases fuel with
  | zero => simp [DataW.trod] at h
  | succ n =>
    unfold DataW.trod at h
    rw [ht] at h
    split at h <;> simp_all
theorem cell_int {k : IntKind} {t : TypeId} {fuel : Nat} {c : Value} {n : Int} {q : List MemPlace} (ht : P.underlying t = some (.int k)) (h : DataW.trod enc P w base spare held fuel t [c] = some (.lit (.int k n), q)) : c = .int k n := by
  obtain ⟨m, e1, e2, _⟩ := DataW.trod_int ht h
  simp only [Prod.mk.injEq, DataW.lit.injEq, Lit.int.injEq] at e2
  obtain ⟨⟨_, rfl⟩, _⟩ := e2
  simpa using e1
theorem cell_bool {t : TypeId} {fuel : Nat} {c : Value} {b : Bool} {q : List MemPlace} (ht : P.underlying t = some .bool) (h : DataW.trod enc P w base spare held fuel t [c] = some (.lit (.bool b), q)) : c = .bool b := by
  obtain ⟨m, e1, e2⟩ := trod_bool ht h
  simp only [Prod.mk.injEq, DataW.lit.injEq, Lit.bool.injEq] at e2
  obtain ⟨rfl, _⟩ := e2
  simpa using e1
/-- A struct of one-cell fields, by its datum. -/
theorem struct_cell {t : TypeId} {fs : Array Field} {fuel : Nat} {cs : List Value} {ds : List (DataW H)} {q : List MemPlace} (ht : P.underlying t = some (.struct fs)) (hone : oneCellFields P fs = true) (hc : P.cellsOf t = fs.size)
    (h : DataW.trod enc P w base spare held fuel t cs = some (.agg ds, q)) (i : Nat) (f : Field) (hi : fs[i]? = some f) (d : DataW H) (hd : ds[i]? = some d) :
    ∃ c n q', cs[i]? = some c ∧ DataW.trod enc P w base spare held n f.type [c] = some (d, q') := by
  obtain ⟨xs, n, _, hx, hl, hlen, hf⟩ := DataW.trod_struct ht h
  have hlt : i < fs.size := (Array.getElem?_eq_some_iff.1 hi).1
  obtain ⟨ho, h1⟩ := hone_of hone i f hi
  have h2 := hf i f hi
  rw [ho, h1, List.getElem?_eq_getElem (show i < xs.length by omega)] at h2
  have hl' : i < cs.length := by omega
  have e : (cs.drop i).take 1 = [cs[i]] := by rw [List.drop_eq_getElem_cons hl']; rfl
  rw [e] at h2
  simp only [Prod.mk.injEq, DataW.agg.injEq] at hx
  rw [hx.1, List.getElem?_map, List.getElem?_eq_getElem (show i < xs.length by omega)] at hd
  simp only [Option.map_some, Option.some.injEq] at hd
  exact ⟨cs[i], n, xs[i].2, List.getElem?_eq_getElem hl', by rw [h2, ← hd]⟩
theorem cells_get {a : Addr} {n : Nat} {cs : List Value} (h : w.cells? base a n = some cs) (j : Nat) (hj : j < n) : w.cell? (a.add j) = cs[j]? := by
  unfold World.cells? at h
  split at h
  · exact mapM_some_get h j j (by simp [hj])
  · cases h
end

theorem one41 (fs : Array Field) (h : Ybad.prog.underlying 41 = some (.struct fs)) : oneCellFields Ybad.prog fs = true := by
  rw [Ybad.underlying41] at h
  cases h
  kernel_rfl
theorem one46 (fs : Array Field) (h : Ybad.prog.underlying 46 = some (.struct fs)) : oneCellFields Ybad.prog fs = true := by
  rw [Ybad.underlying46] at h
  cases h
  kernel_rfl
theorem one24 (fs : Array Field) (h : Ybad.prog.underlying 24 = some (.struct fs)) : oneCellFields Ybad.prog fs = true := by
  rw [Ybad.underlying24] at h
  cases h
  kernel_rfl
theorem cells41 : Ybad.prog.cellsOf 41 = 6 := by kernel_rfl
theorem cells46 : Ybad.prog.cellsOf 46 = 3 := by kernel_rfl
theorem cells24 : Ybad.prog.cellsOf 24 = 1 := by kernel_rfl

abbrev ruleD (r : Cal.Rule) : DataW Unit := .agg [.lit (.int .i64 r.first), .lit (.int .i64 r.last), .lit (.int .i64 r.mon), .lit (.int .i64 r.dy), .lit (.int .i64 r.monday), .lit (.bool r.eqx)]
theorem rulesD : (Rows.laid_example_com_shokan_shokan_holidayRules : DataW Unit) = .slice (Cal.rules.map ruleD) [] := rfl
abbrev fitD (x : Int × Int × Int) : DataW Unit := .agg [.lit (.int .i64 x.1), .lit (.int .i64 x.2.1), .lit (.int .i64 x.2.2)]
abbrev fitRows : List (Int × Int × Int) := [(1900, 20835700, 23258800), (1980, 20843100, 23248800), (2100, 20851000, 23248800)]
theorem fitsD : (Rows.laid_example_com_shokan_shokan_equinoxFits : DataW Unit) = .slice (fitRows.map fitD) [] := rfl

section
variable {W : World}
/-- A rule's six cells. -/
theorem rule_cells {fuel : Nat} {enc : TypeId × Value → Unit} {sp : Nat → Bool} {held : Bool} {cs : List Value} {r : Cal.Rule} {q : List MemPlace} (h : DataW.trod enc Ybad.prog W 0 sp held fuel 41 cs = some (ruleD r, q)) (j : Nat) (hj : j < 6) : cs[j]? = (RC r)[j]? := by
  have st := fun i f hi d hd => struct_cell Ybad.underlying41 (one41 _ Ybad.underlying41) cells41 h i f hi d hd
  match j, hj with
  | 0, _ => obtain ⟨c, n, q', h1, h2⟩ := st 0 _ rfl _ rfl; rw [h1, cell_int Ybad.underlying3 h2]; rfl
  | 1, _ => obtain ⟨c, n, q', h1, h2⟩ := st 1 _ rfl _ rfl; rw [h1, cell_int Ybad.underlying3 h2]; rfl
  | 2, _ => obtain ⟨c, n, q', h1, h2⟩ := st 2 _ rfl _ rfl; rw [h1, cell_int Ybad.underlying28 h2]; rfl
  | 3, _ => obtain ⟨c, n, q', h1, h2⟩ := st 3 _ rfl _ rfl; rw [h1, cell_int Ybad.underlying3 h2]; rfl
  | 4, _ => obtain ⟨c, n, q', h1, h2⟩ := st 4 _ rfl _ rfl; rw [h1, cell_int Ybad.underlying3 h2]; rfl
  | 5, _ => obtain ⟨c, n, q', h1, h2⟩ := st 5 _ rfl _ rfl; rw [h1, cell_bool Ybad.underlying4 h2]; rfl
theorem fit_cells {fuel : Nat} {enc : TypeId × Value → Unit} {sp : Nat → Bool} {held : Bool} {cs : List Value} {x : Int × Int × Int} {q : List MemPlace} (h : DataW.trod enc Ybad.prog W 0 sp held fuel 46 cs = some (fitD x, q)) :
    cs[0]? = some (.int .i64 x.1) ∧ cs[1]? = some (.int .i64 x.2.1) ∧ cs[2]? = some (.int .i64 x.2.2) := by
  have st := fun i f hi d hd => struct_cell Ybad.underlying46 (one46 _ Ybad.underlying46) cells46 h i f hi d hd
  refine ⟨?_, ?_, ?_⟩
  · obtain ⟨c, n, q', h1, h2⟩ := st 0 _ rfl _ rfl; rw [h1, cell_int Ybad.underlying3 h2]
  · obtain ⟨c, n, q', h1, h2⟩ := st 1 _ rfl _ rfl; rw [h1, cell_int Ybad.underlying2 h2]
  · obtain ⟨c, n, q', h1, h2⟩ := st 2 _ rfl _ rfl; rw [h1, cell_int Ybad.underlying2 h2]
theorem date_cell {fuel : Nat} {enc : TypeId × Value → Unit} {sp : Nat → Bool} {held : Bool} {cs : List Value} {x : Int} {q : List MemPlace} (h : DataW.trod enc Ybad.prog W 0 sp held fuel 24 cs = some (.agg [.lit (.int .i64 x)], q)) : cs[0]? = some (.int .i64 x) := by
  obtain ⟨c, n, q', h1, h2⟩ := struct_cell Ybad.underlying24 (one24 _ Ybad.underlying24) cells24 h 0 _ rfl _ rfl
  rw [h1, cell_int Ybad.underlying2 h2]
/-- A slice of structs. -/
theorem slice_rows {fuel : Nat} {t e : TypeId} {enc : TypeId × Value → Unit} {held : Bool} {cs : List Value} {ds : List (DataW Unit)} {q : List MemPlace} (ht : Ybad.prog.underlying t = some (.slice e)) (h : DataW.trod enc Ybad.prog W 0 (fun _ => true) held fuel t cs = some (.slice ds [], q)) :
    ∃ a n, cs = [.slice (some a) ds.length ds.length] ∧ ∀ i d, ds[i]? = some d → ∃ cs' q', W.cells? 0 (a.add (i * Ybad.prog.cellsOf e)) (Ybad.prog.cellsOf e) = some cs' ∧ DataW.trod enc Ybad.prog W 0 (fun _ => true) held n e cs' = some (d, q') := by
  rcases DataW.trod_slice ht h with ⟨_, hx⟩ | ⟨a, len, cap, elems, rest, n, _, hcs, hx, _, hl, _, hlen, hel, hrest, _⟩
  · simp at hx
  · simp only [Prod.mk.injEq, DataW.slice.injEq] at hx
    obtain ⟨⟨rfl, hr⟩, _⟩ := hx
    obtain ⟨hr2, _⟩ := hrest rfl
    have hr3 : rest.length = 0 := by simpa using (congrArg List.length hr).symm
    have el : (elems.map (·.1)).length = len := by simpa using hlen
    refine ⟨a, n, by rw [el, hcs, show cap = len by omega], fun i d hd => ?_⟩
    have hi : i < len := by
      have := (List.getElem?_eq_some_iff.1 hd).1
      omega
    have h1 := hel i hi
    rw [List.getElem?_eq_getElem (show i < elems.length by omega)] at h1
    rw [List.getElem?_map, List.getElem?_eq_getElem (show i < elems.length by omega)] at hd
    simp only [Option.map_some, Option.some.injEq] at hd
    obtain ⟨cs', h2, h3⟩ := Option.bind_eq_some_iff.1 h1
    exact ⟨cs', elems[i].2, h2, by rw [h3, ← hd]⟩
theorem spot_none {a : Addr} {v : Value} (h : W.cell? a = some v) : a.spot = none := by
  unfold World.cell? at h
  split at h
  · split at h
    · cases h
    · rename_i hs; simpa using hs
  · cases h
end
end Go.Proofs.YbulkbsqcDoor
