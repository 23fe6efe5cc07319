/-
  narrowKey's state: the column's block and the partner's box; all else that was there is as it was.
-/
import Derived.Test.YbulkbspoDoorCmp
import Derived.Deep.CutRange
namespace Go.Proofs.YbulkbspoDoor
open Go.RowKit

/-- The cells of a block. -/
def blk (w : World) (b : Nat) : Array Value := match w.heap[b]? with | some (.cells cs _ _) => cs | _ => #[]

theorem blk_of {w : World} {b : Nat} {cs : Array Value} {t : TypeId} {fr : Nat × Nat} (h : w.heap[b]? = some (.cells cs t fr)) : blk w b = cs := by simp [blk, h]

/-- AS narrowKey LEAVES THE WORLD: block b holds the column c; every other block of w is as it was. -/
structure Nar (w : World) (b : Nat) (c : Col) (w' : World) : Prop where
  os : w'.os = w.os
  tape : w'.tape = w.tape
  output : w'.output = w.output
  size : w.heap.size ≤ w'.heap.size
  own : w'.heap[b]? = some (.cells c.cells 32)
  rest : ∀ k, k < w.heap.size → k ≠ b → w'.heap[k]? = w.heap[k]?

/-- .. AND, WHILE IT RUNS: the partner's box, the first new block, holds p. -/
structure St (w : World) (b : Nat) (c p : Col) (w' : World) : Prop where
  nar : Nar w b c w'
  lt : b < w.heap.size
  more : w.heap.size < w'.heap.size
  par : w'.heap[w.heap.size]? = some (.cells p.cells 32)

theorem St.drewN' {w : World} {b : Nat} {c p : Col} {w' : World} (h : St w b c p w') (n : Nat) : St w b c p (w'.drewN n) :=
  ⟨⟨h.nar.os, h.nar.tape, h.nar.output, h.nar.size, h.nar.own, h.nar.rest⟩, h.lt, h.more, h.par⟩
theorem St.drew' {w : World} {b : Nat} {c p : Col} {w' : World} (h : St w b c p w') : St w b c p w'.drew := h.drewN' 1
theorem St.below' {w : World} {b : Nat} {c p : Col} {w' w1 : World} (h : St w b c p w') (k : Below w'.heap.size w' w1) : St w b c p w1 := by
  have hb : b < w'.heap.size := Nat.lt_trans h.lt h.more
  refine ⟨⟨k.os.trans h.nar.os, k.tape.trans h.nar.tape, k.output.trans h.nar.output, Nat.le_trans h.nar.size k.size, ?_, fun i hi hne => ?_⟩, h.lt, Nat.lt_of_lt_of_le h.more k.size, ?_⟩
  · rw [k.block b hb]; exact h.nar.own
  · rw [k.block i (by have := h.more; omega)]; exact h.nar.rest i hi hne
  · rw [k.block _ h.more]; exact h.par
theorem St.alloc' {w : World} {b : Nat} {c p : Col} {w' : World} (h : St w b c p w') (o : Obj) : St w b c p (w'.alloc o) :=
  h.below' ((Below.refl _ _).alloc (Nat.le_refl _) o)
/-- A store into the column. -/
theorem St.set' {w : World} {b : Nat} {c c' p : Col} {w' : World} (h : St w b c p w') (i : Nat) (v : Value) (hc : c.cells.setIfInBounds i v = c'.cells) : St w b c' p (w'.setCell ⟨b, i, none⟩ v) := by
  have hs : (w'.setCell ⟨b, i, none⟩ v).heap.size = w'.heap.size := by simp [World.setCell]
  refine ⟨⟨h.nar.os, h.nar.tape, h.nar.output, by rw [hs]; exact h.nar.size, ?_, fun k hk hne => ?_⟩, h.lt, by rw [hs]; exact h.more, ?_⟩
  · rw [heap_setCell_same _ _ _ _ _ _ h.nar.own, hc]
  · rw [Below.heap_setCell _ _ _ _ hne]; exact h.nar.rest k hk hne
  · rw [Below.heap_setCell _ _ _ _ (by show w.heap.size ≠ b; have := h.lt; omega)]; exact h.par
theorem St.setNdv {w : World} {b : Nat} {c p : Col} {w' : World} (h : St w b c p w') (r : Nat) : St w b { c with ndv := r } p (w'.setCell ⟨b, 2, none⟩ (.float .f64 r)) := h.set' (c' := { c with ndv := r }) 2 (.float .f64 r) rfl
theorem St.setHas {w : World} {b : Nat} {c p : Col} {w' : World} (h : St w b c p w') (r : Bool) : St w b { c with has := r } p (w'.setCell ⟨b, 3, none⟩ (.bool r)) := h.set' (c' := { c with has := r }) 3 (.bool r) rfl
theorem St.setDom {w : World} {b : Nat} {c p : Col} {w' : World} (h : St w b c p w') (r : Nat) : St w b { c with dom := r } p (w'.setCell ⟨b, 15, none⟩ (.float .f64 r)) := h.set' (c' := { c with dom := r }) 15 (.float .f64 r) rfl
theorem St.setRows {w : World} {b : Nat} {c p : Col} {w' : World} (h : St w b c p w') (r : Nat) : St w b { c with rows := r } p (w'.setCell ⟨b, 16, none⟩ (.float .f64 r)) := h.set' (c' := { c with rows := r }) 16 (.float .f64 r) rfl
theorem St.setMin {w : World} {b : Nat} {c p : Col} {w' : World} (h : St w b c p w') (k : Int) (n : Nat) (s : ByteArray) : St w b { c with ik := k, inn := n, ist := s } p (((w'.setCell ⟨b, 5, none⟩ (.int .u8 k)).setCell ⟨b, 6, none⟩ (.float .f64 n)).setCell ⟨b, 7, none⟩ (.string s)) :=
  ((h.set' (c' := { c with ik := k }) 5 (.int .u8 k) rfl).set' (c' := { c with ik := k, inn := n }) 6 (.float .f64 n) rfl).set' (c' := { c with ik := k, inn := n, ist := s }) 7 (.string s) rfl
theorem St.setMax {w : World} {b : Nat} {c p : Col} {w' : World} (h : St w b c p w') (k : Int) (n : Nat) (s : ByteArray) : St w b { c with ak := k, an := n, ast := s } p (((w'.setCell ⟨b, 8, none⟩ (.int .u8 k)).setCell ⟨b, 9, none⟩ (.float .f64 n)).setCell ⟨b, 10, none⟩ (.string s)) :=
  ((h.set' (c' := { c with ak := k }) 8 (.int .u8 k) rfl).set' (c' := { c with ak := k, an := n }) 9 (.float .f64 n) rfl).set' (c' := { c with ak := k, an := n, ast := s }) 10 (.string s) rfl
theorem St.setLists {w : World} {b : Nat} {c p : Col} {w' : World} (h : St w b c p w') : St w b { c with ma := none, ml := 0, mc := 0, ha := none, hl := 0, hc := 0 } p ((w'.setCell ⟨b, 13, none⟩ (.slice none 0 0)).setCell ⟨b, 14, none⟩ (.slice none 0 0)) :=
  (h.set' (c' := { c with ma := none, ml := 0, mc := 0 }) 13 (.slice none 0 0) rfl).set' (c' := { c with ma := none, ml := 0, mc := 0, ha := none, hl := 0, hc := 0 }) 14 (.slice none 0 0) rfl
theorem St.start {w : World} {b : Nat} {c : Col} (p : Col) (h : w.heap[b]? = some (.cells c.cells 32)) (hb : b < w.heap.size) : St w b c p (w.alloc (.cells p.cells 32)) := by
  refine ⟨⟨rfl, rfl, rfl, by rw [hp_size]; omega, ?_, fun k hk _ => hp_old _ _ _ hk⟩, hb, by rw [hp_size]; omega, hp_new _ _ _ rfl⟩
  rw [hp_old _ _ _ hb]; exact h

theorem St.cell {w : World} {b : Nat} {c p : Col} {w' : World} (h : St w b c p w') (j : Nat) : w'.cell? ⟨b, j, none⟩ = c.cells[j]? := cell_of_row _ _ _ _ _ _ h.nar.own
theorem St.pcell {w : World} {b : Nat} {c p : Col} {w' : World} (h : St w b c p w') (j : Nat) : w'.cell? ⟨w.heap.size, j, none⟩ = p.cells[j]? := cell_of_row _ _ _ _ _ _ h.par
theorem St.thaw {w : World} {b : Nat} {c p : Col} {w' : World} (h : St w b c p w') (j : Nat) : w'.frozen? ⟨b, j, none⟩ = false := frozen_of_row _ _ _ _ _ h.nar.own
theorem St.tab {w : World} {b : Nat} {c p : Col} {w' : World} (h : St w b c p w') (hb : b ≠ 0) (t : Tab w) : Tab w' := by
  intro i hi
  rw [← t i hi]
  exact World.cell?_of_block (w := w) (h.nar.rest 0 (by have := h.lt; omega) (fun e => hb e.symm))

/-- A whole column out of its block, as the walk meets it. -/
theorem loadAt32 (w : World) (b : Nat) (c : Col) (h : w.heap[b]? = some (.cells c.cells 32)) : (Instr.loadAt 32 (.pointer (some ⟨b, 0, none⟩))).run Ybad.prog w = .ok (.agg c.cells) w := by
  simp only [Instr.loadAt, Instr.sureAddr, Sem.run_bind, Sem.run_pure, Result.andThen]
  exact run_loadVar_row w b 32 32 c.cells (0, 0) _ h Ybad.underlying32 rfl (info32 c)
theorem St.load {w : World} {b : Nat} {c p : Col} {w' : World} (h : St w b c p w') : (Instr.loadAt 32 (.pointer (some ⟨b, 0, none⟩))).run Ybad.prog w' = .ok (.agg c.cells) w' := loadAt32 _ _ _ h.nar.own
theorem St.pload {w : World} {b : Nat} {c p : Col} {w' : World} (h : St w b c p w') : (Instr.loadAt 32 (.pointer (some ⟨w.heap.size, 0, none⟩))).run Ybad.prog w' = .ok (.agg p.cells) w' := loadAt32 _ _ _ h.par

/-! ### The same for a walk with its world written out or abstract: by 'blk' -/
theorem blk_some {w : World} {b : Nat} (h : (blk w b).size = 17) : ∃ t fr, w.heap[b]? = some (.cells (blk w b) t fr) := by
  unfold blk at h ⊢
  split at h
  · rename_i cs t fr e; exact ⟨t, fr, by rw [e]⟩
  · cases h
/-- A pointer to a block's head; its block. -/
def ptrHead : Value → Bool | .pointer (some ⟨_, 0, none⟩) => true | _ => false
def ptrBlk : Value → Nat | .pointer (some a) => a.block | _ => 0
theorem ptrHead_mk (b : Nat) : ptrHead (.pointer (some ⟨b, 0, none⟩)) = true := rfl
theorem ptrBlk_mk (a : Addr) : ptrBlk (.pointer (some a)) = a.block := rfl
theorem ptrHead_inv {v : Value} (h : ptrHead v = true) : ∃ b, v = .pointer (some ⟨b, 0, none⟩) := by
  unfold ptrHead at h
  split at h
  · exact ⟨_, rfl⟩
  · cases h
/-- THE RULE: a whole column's load is its block's cells: never cell by cell. -/
theorem exec_load32 (ρ : Operand → Value) (dst : Option Tmp) (x : Operand) (ty : TypeId) (pos : String) (after : Array Edge) (guard : Option (Nat × Bool)) (w : World)
    (h1 : ptrHead (ρ x) = true) (h2 : (blk w (ptrBlk (ρ x))).size = 17) :
    (execOp ρ ⟨dst, .load 32 x, ty, pos, after, guard⟩).run Ybad.prog w = .ok (.value (.agg (blk w (ptrBlk (ρ x))))) w := by
  obtain ⟨b, hb⟩ := ptrHead_inv h1
  rw [hb] at h2 ⊢
  obtain ⟨t, fr, e⟩ := blk_some h2
  have hi : (Ybad.prog.info? 32).map (·.size) = some (blk w b).size := by rw [show (blk w b).size = 17 from h2]; kernel_rfl
  unfold execOp
  simp only [hb, Instr.loadAt, Instr.sureAddr, Sem.run_bind, Sem.run_pure, Result.andThen_ok, run_loadVar_row w b t 32 (blk w b) fr _ e Ybad.underlying32 rfl hi]
  rfl
theorem blk_drew (w : World) (b : Nat) : blk w.drew b = blk w b := Eq.trans rfl rfl
theorem blk_drewN (w : World) (n b : Nat) : blk (w.drewN n) b = blk w b := Eq.trans rfl rfl
theorem blk_alloc (w : World) (o : Obj) (b : Nat) (h : b < w.heap.size) : blk (w.alloc o) b = blk w b := by unfold blk; rw [hp_old _ _ _ h]
theorem blk_new (w : World) (cs : Array Value) (t : TypeId) (b : Nat) (h : b = w.heap.size) : blk (w.alloc (.cells cs t)) b = cs := by unfold blk; rw [hp_new _ _ _ h]
theorem blk_setOther (w : World) (a : Addr) (v : Value) (b : Nat) (h : b ≠ a.block) : blk (w.setCell a v) b = blk w b := by unfold blk; rw [Below.heap_setCell _ _ _ _ h]
end Go.Proofs.YbulkbspoDoor
