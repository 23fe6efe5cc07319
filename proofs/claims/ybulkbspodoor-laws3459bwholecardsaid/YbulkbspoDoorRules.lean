/-
  A whole column's store, as a rule for the walk.
-/
import Derived.Test.YbulkbspoDoorNarrow
import Derived.Deep.WholeRow
namespace Go.Proofs.YbulkbspoDoor
open Go.RowKit

/-- A column's block, not frozen. -/
def thaw32 (w : World) (b : Nat) : Bool := match w.heap[b]? with | some (.cells cs _ fr) => cs.size == 17 && fr == (0, 0) | _ => false
def isCol : Value → Bool | .agg cs => cs.size == 17 && cs.all (·.oneCell') | _ => false
theorem isCol_mk (c : Col) : isCol (.agg c.cells) = true := by kernel_rfl
theorem thaw_some {w : World} {b : Nat} (h : thaw32 w b = true) : ∃ cs t, w.heap[b]? = some (.cells cs t (0, 0)) ∧ cs.size = 17 := by
  unfold thaw32 at h
  split at h
  · rename_i cs t fr e
    simp only [Bool.and_eq_true, beq_iff_eq] at h
    obtain ⟨h1, h2⟩ := h
    subst h2
    exact ⟨cs, t, e, h1⟩
  · cases h
/-- THE RULE: a whole column's store. -/
theorem exec_store32 (ρ : Operand → Value) (dst : Option Tmp) (x y : Operand) (ty : TypeId) (pos : String) (after : Array Edge) (guard : Option (Nat × Bool)) (w : World)
    (h1 : ptrHead (ρ x) = true) (h2 : thaw32 w (ptrBlk (ρ x)) = true) (h3 : isCol (ρ y) = true) :
    (execOp ρ ⟨dst, .store 32 x y, ty, pos, after, guard⟩).run Ybad.prog w = .ok .skip (w.setRow (ptrBlk (ρ x)) (ρ y).cells) := by
  obtain ⟨b, hb⟩ := ptrHead_inv h1
  rw [hb] at h2 ⊢
  obtain ⟨old, t, e, ho⟩ := thaw_some h2
  cases hy : ρ y with
  | agg cs =>
    rw [hy] at h3
    simp only [isCol, Bool.and_eq_true, beq_iff_eq] at h3
    have hi : (Ybad.prog.info? 32).map (·.size) = some cs.size := by rw [h3.1]; kernel_rfl
    unfold execOp
    simp only [hb, hy, Instr.storeAt, Instr.sureAddr, Sem.run_bind, Sem.run_pure, Result.andThen_ok, run_storeVar_row w b t 32 old cs e hi (by rw [ho, h3.1]) h3.2]
    rfl
  | _ => rw [hy] at h3; cases h3
theorem thaw_drew (w : World) (b : Nat) : thaw32 w.drew b = thaw32 w b := Eq.trans rfl rfl
theorem thaw_alloc (w : World) (o : Obj) (b : Nat) (h : b < w.heap.size) : thaw32 (w.alloc o) b = thaw32 w b := by unfold thaw32; rw [hp_old _ _ _ h]
theorem thaw_new (w : World) (cs : Array Value) (t : TypeId) (b : Nat) (h : b = w.heap.size) (hs : cs.size = 17) : thaw32 (w.alloc (.cells cs t)) b = true := by
  unfold thaw32; rw [hp_new _ _ _ h]; simp [hs]
theorem setRow_alloc_past (w : World) (o : Obj) (g : Nat) (cs : Array Value) (h : g < w.heap.size) : (w.alloc o).setRow g cs = (w.setRow g cs).alloc o := by
  simp only [World.setRow, World.alloc]
  congr 1
  apply Array.ext_getElem?
  intro i
  simp only [Array.getElem?_modify, Array.getElem?_push, Array.size_modify]
  by_cases hi : i = w.heap.size
  · subst hi
    rw [if_neg (by omega)]
    simp
  · simp [hi]
theorem setRow_alloc_at (w : World) (c c' : Array Value) (t : TypeId) (g : Nat) (h : g = w.heap.size) : (w.alloc (.cells c t)).setRow g c' = w.alloc (.cells c' t) := by
  subst h; exact World.setRow_alloc_new w c c' t
theorem setRow_drew (w : World) (g : Nat) (cs : Array Value) : w.drew.setRow g cs = (w.setRow g cs).drew := Eq.trans rfl rfl
end Go.Proofs.YbulkbspoDoor
