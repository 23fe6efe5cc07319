/-
  zzs3459bcol: a Column out of the plain data of one side.
-/
import Derived.Test.YbulkbspoDoorCmp
namespace Go.Proofs.YbulkbspoDoor
open Go.RowKit
attribute [local go_sem] alloc_drewN setCell_drewN run_store_float

/-- The plain data of one key column, by its sixteen cells. -/
structure Side where
  ty : Int
  ndv : Nat
  has : Bool
  nul : Nat
  ik : Int
  inn : Nat
  ist : ByteArray
  ak : Int
  an : Nat
  ast : ByteArray
  tf : Nat
  ht : Bool
  dom : Nat
  rows : Nat
  nm : Int
  nh : Int
abbrev Side.cells (c : Side) : Array Value :=
  #[.int .u8 c.ty, .float .f64 c.ndv, .bool c.has, .float .f64 c.nul, .int .u8 c.ik, .float .f64 c.inn, .string c.ist, .int .u8 c.ak, .float .f64 c.an, .string c.ast, .float .f64 c.tf, .bool c.ht,
    .float .f64 c.dom, .float .f64 c.rows, .int .u8 c.nm, .int .u8 c.nh]

theorem make29 (m : Nat) (h0 : 0 < m) (h : m < 4) : ∃ cs, ∀ w, (Instr.makeSlice 29 (.int .i64 m) (.int .i64 m)).run Ybad.prog w = .ok (.slice (some ⟨w.heap.size, 0, none⟩) m m) (w.alloc (.cells cs 75)) := by
  obtain rfl | rfl | rfl : m = 1 ∨ m = 2 ∨ m = 3 := by omega
  · exact ⟨#[.int .u8 0, .float .f64 0, .string ⟨#[]⟩, .float .f64 0], fun _ => by kernel_rfl⟩
  · exact ⟨#[.int .u8 0, .float .f64 0, .string ⟨#[]⟩, .float .f64 0, .int .u8 0, .float .f64 0, .string ⟨#[]⟩, .float .f64 0], fun _ => by kernel_rfl⟩
  · exact ⟨#[.int .u8 0, .float .f64 0, .string ⟨#[]⟩, .float .f64 0, .int .u8 0, .float .f64 0, .string ⟨#[]⟩, .float .f64 0, .int .u8 0, .float .f64 0, .string ⟨#[]⟩, .float .f64 0], fun _ => by kernel_rfl⟩
theorem make30 (m : Nat) (h0 : 0 < m) (h : m < 4) : ∃ cs, ∀ w, (Instr.makeSlice 30 (.int .i64 m) (.int .i64 m)).run Ybad.prog w = .ok (.slice (some ⟨w.heap.size, 0, none⟩) m m) (w.alloc (.cells cs 77)) := by
  obtain rfl | rfl | rfl : m = 1 ∨ m = 2 ∨ m = 3 := by omega
  · exact ⟨#[.int .u8 0, .float .f64 0, .string ⟨#[]⟩, .int .u8 0, .float .f64 0, .string ⟨#[]⟩, .float .f64 0], fun _ => by kernel_rfl⟩
  · exact ⟨#[.int .u8 0, .float .f64 0, .string ⟨#[]⟩, .int .u8 0, .float .f64 0, .string ⟨#[]⟩, .float .f64 0, .int .u8 0, .float .f64 0, .string ⟨#[]⟩, .int .u8 0, .float .f64 0, .string ⟨#[]⟩, .float .f64 0], fun _ => by kernel_rfl⟩
  · exact ⟨#[.int .u8 0, .float .f64 0, .string ⟨#[]⟩, .int .u8 0, .float .f64 0, .string ⟨#[]⟩, .float .f64 0, .int .u8 0, .float .f64 0, .string ⟨#[]⟩, .int .u8 0, .float .f64 0, .string ⟨#[]⟩, .float .f64 0, .int .u8 0, .float .f64 0, .string ⟨#[]⟩, .int .u8 0, .float .f64 0, .string ⟨#[]⟩, .float .f64 0], fun _ => by kernel_rfl⟩

/-- WHAT A REGION KEEPS: one block's cells; below B the world is as w0 was. -/
abbrev One (B : Nat) (w0 : World) (b1 : Nat) (c1 : Array Value) (w' : World) : Prop :=
  (∀ j, w'.cell? ⟨b1, j, none⟩ = c1[j]?) ∧ Below B w0 w' ∧ b1 < w'.heap.size ∧ B ≤ w'.heap.size
theorem One.drew' {B : Nat} {w0 : World} {b1 : Nat} {c1 : Array Value} {w' : World} (h : One B w0 b1 c1 w') : One B w0 b1 c1 w'.drew := ⟨h.1, h.2.1.drew, h.2.2⟩
theorem One.drewN' {B : Nat} {w0 : World} {b1 : Nat} {c1 : Array Value} {w' : World} (h : One B w0 b1 c1 w') (n : Nat) : One B w0 b1 c1 (w'.drewN n) := ⟨h.1, below_drewN h.2.1 n, h.2.2⟩
theorem One.alloc' {B : Nat} {w0 : World} {b1 : Nat} {c1 : Array Value} {w' : World} (h : One B w0 b1 c1 w') (o : Obj) : One B w0 b1 c1 (w'.alloc o) := by
  obtain ⟨h1, h3, h4, h6⟩ := h
  refine ⟨fun j => ?_, h3.alloc h6 o, ?_, ?_⟩
  · rw [World.cell?_alloc_past _ _ _ h4]; exact h1 j
  all_goals rw [hp_size]; omega
theorem One.start (w : World) (c1 : Array Value) (t1 : TypeId) : One w.heap.size w w.heap.size c1 (w.alloc (.cells c1 t1)) := by
  refine ⟨fun j => ?_, (Below.refl _ _).alloc (Nat.le_refl _) _, ?_, ?_⟩
  · rw [World.cell?_alloc_at _ _ _ _ rfl]
  all_goals rw [hp_size]; omega

/-- What of the column is known of the side that it was made of. -/
def ColOf (c : Col) (s : Side) (name : ByteArray) : Prop := c.nm = name ∧ c.ty = s.ty ∧ c.nul = s.nul ∧ (c.ml : Int) = s.nm % 4 ∧ (c.hl : Int) = s.nh % 4

end Go.Proofs.YbulkbspoDoor
