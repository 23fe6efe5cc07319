/-
  compareValues, and the law's own bcmp and bveq.
-/
import Derived.Test.YbulkbspoDoorMore
import Derived.Deep.RegionHeld3
namespace Go.Proofs.YbulkbspoDoor
open Go.RowKit
attribute [local go_sem] alloc_drewN setCell_drewN run_store_float

def cmpV (k : Int) (n : Nat) (s : ByteArray) (n' : Nat) (s' : ByteArray) : Int := if k = 2 then cmpS s s' else cmpF n n'
theorem cmpV_s {k : Int} {n n' : Nat} {s s' : ByteArray} (h : k = 2) : cmpV k n s n' s' = cmpS s s' := by unfold cmpV; rw [if_pos h]
theorem cmpV_n {k : Int} {n n' : Nat} {s s' : ByteArray} (h : k ≠ 2) : cmpV k n s n' s' = cmpF n n' := by unfold cmpV; rw [if_neg h]

/-- WHAT A REGION KEEPS: two blocks' cells; below B the world is as w0 was. -/
abbrev Two (B : Nat) (w0 : World) (b1 : Nat) (c1 : Array Value) (b2 : Nat) (c2 : Array Value) (w' : World) : Prop :=
  (∀ j, w'.cell? ⟨b1, j, none⟩ = c1[j]?) ∧ (∀ j, w'.cell? ⟨b2, j, none⟩ = c2[j]?) ∧ Below B w0 w' ∧ b1 < w'.heap.size ∧ b2 < w'.heap.size ∧ B ≤ w'.heap.size

theorem Two.drew' {B : Nat} {w0 : World} {b1 : Nat} {c1 : Array Value} {b2 : Nat} {c2 : Array Value} {w' : World} (h : Two B w0 b1 c1 b2 c2 w') : Two B w0 b1 c1 b2 c2 w'.drew :=
  ⟨h.1, h.2.1, h.2.2.1.drew, h.2.2.2⟩
theorem Two.drewN' {B : Nat} {w0 : World} {b1 : Nat} {c1 : Array Value} {b2 : Nat} {c2 : Array Value} {w' : World} (h : Two B w0 b1 c1 b2 c2 w') (n : Nat) : Two B w0 b1 c1 b2 c2 (w'.drewN n) :=
  ⟨h.1, h.2.1, below_drewN h.2.2.1 n, h.2.2.2⟩
theorem Two.alloc' {B : Nat} {w0 : World} {b1 : Nat} {c1 : Array Value} {b2 : Nat} {c2 : Array Value} {w' : World} (h : Two B w0 b1 c1 b2 c2 w') (o : Obj) : Two B w0 b1 c1 b2 c2 (w'.alloc o) := by
  obtain ⟨h1, h2, h3, h4, h5, h6⟩ := h
  refine ⟨fun j => ?_, fun j => ?_, h3.alloc h6 o, ?_, ?_, ?_⟩
  · rw [World.cell?_alloc_past _ _ _ h4]; exact h1 j
  · rw [World.cell?_alloc_past _ _ _ h5]; exact h2 j
  all_goals rw [hp_size]; omega
theorem Two.alloc_drew {B : Nat} {w0 : World} {b1 : Nat} {c1 : Array Value} {b2 : Nat} {c2 : Array Value} {w' : World} (h : Two B w0 b1 c1 b2 c2 w'.drew) (o : Obj) : Two B w0 b1 c1 b2 c2 (w'.alloc o).drew :=
  Two.alloc' h o
/-- Two blocks that were just laid. -/
theorem Two.start (w : World) (c1 : Array Value) (t1 : TypeId) (c2 : Array Value) (t2 : TypeId) : Two w.heap.size w w.heap.size c1 (w.heap.size + 1) c2 ((w.alloc (.cells c1 t1)).alloc (.cells c2 t2)) := by
  refine ⟨fun j => ?_, fun j => ?_, ((Below.refl _ _).alloc (Nat.le_refl _) _).alloc (by simp) _, ?_, ?_, ?_⟩
  · rw [World.cell?_alloc_past _ _ _ (by simp), World.cell?_alloc_at _ _ _ _ rfl]
  · rw [World.cell?_alloc_at _ _ _ _ (by simp)]
  all_goals rw [hp_size, hp_size]; omega

theorem compareValues_num (k : Int) (n : Nat) (s : ByteArray) (k' : Int) (n' : Nat) (s' : ByteArray) (w : World) (h : (k == 2) = false) :
    Calls Ybad.prog 19 #[.agg (V3 k n s), .agg (V3 k' n' s')] w fun e w' => e = .returned (.int .i64 (cmpF n n')) ∧ Below w.heap.size w w' := by
  have h0 : Hid (Two w.heap.size w w.heap.size (V3 k n s) (w.heap.size + 1) (V3 k' n' s') (((w.alloc (.cells (V3 k n s) 28)).alloc (.cells (V3 k' n' s') 28)).alloc (.cells (V3 k n s) 28))) := (Two.start w _ _ _ _).alloc' _
  go_enter Ybad.func19, Ybad.ntmps19
  go_wp2_with (go_at_call 24; refine (isString_any k n s _).mono ?_; rintro e w' ⟨rfl, rfl⟩)
  go_region_held3 (fun w' => Two w.heap.size w w.heap.size (V3 k n s) (w.heap.size + 1) (V3 k' n' s') w')
    (first | (exact Two.drew' h0) | (refine Two.alloc_drew ?_ _; assumption) | assumption)
    (first
    | (go_at_call_of 26 (Value.agg #[Value.int IntKind.u8 k, Value.float FloatKind.f64 n, Value.string s]); refine (number_any k n s _).mono ?_; rintro e w' ⟨rfl, rfl⟩)
    | (go_at_call_of 26 (Value.agg #[Value.int IntKind.u8 k', Value.float FloatKind.f64 n', Value.string s']); refine (number_any k' n' s' _).mono ?_; rintro e w' ⟨rfl, rfl⟩)
    | (go_at_call 21; refine (compareF_any n n' _).mono ?_; rintro e w' ⟨rfl, rfl⟩))
  all_goals go_wp2
  all_goals go_ret
  all_goals (rename_i hh; exact ⟨rfl, hh.2.2.1⟩)

theorem compareValues_str (k : Int) (n : Nat) (s : ByteArray) (k' : Int) (n' : Nat) (s' : ByteArray) (w : World) (h : (k == 2) = true) :
    Calls Ybad.prog 19 #[.agg (V3 k n s), .agg (V3 k' n' s')] w fun e w' => e = .returned (.int .i64 (cmpS s s')) ∧ Below w.heap.size w w' := by
  have h0 : Hid (Two w.heap.size w w.heap.size (V3 k n s) (w.heap.size + 1) (V3 k' n' s') (((w.alloc (.cells (V3 k n s) 28)).alloc (.cells (V3 k' n' s') 28)).alloc (.cells (V3 k n s) 28))) := (Two.start w _ _ _ _).alloc' _
  go_enter Ybad.func19, Ybad.ntmps19
  go_wp2_with (go_at_call 24; refine (isString_any k n s _).mono ?_; rintro e w' ⟨rfl, rfl⟩)
  go_region_held3 (fun w' => Two w.heap.size w w.heap.size (V3 k n s) (w.heap.size + 1) (V3 k' n' s') w')
    (first | (exact Two.drew' h0) | (refine Two.alloc_drew ?_ _; assumption) | assumption)
    (first
    | (go_at_call_of 25 (Value.agg #[Value.int IntKind.u8 k, Value.float FloatKind.f64 n, Value.string s]); refine (text_any k n s _).mono ?_; rintro e w' ⟨rfl, rfl⟩)
    | (go_at_call_of 25 (Value.agg #[Value.int IntKind.u8 k', Value.float FloatKind.f64 n', Value.string s']); refine (text_any k' n' s' _).mono ?_; rintro e w' ⟨rfl, rfl⟩)
    | (go_at_call 20; refine (compareS_any s s' _).mono ?_; rintro e w' ⟨rfl, rfl⟩))
  all_goals go_wp2
  all_goals go_ret
  all_goals (rename_i hh; exact ⟨rfl, hh.2.2.1⟩)

theorem compareValues_any (k : Int) (n : Nat) (s : ByteArray) (k' : Int) (n' : Nat) (s' : ByteArray) (w : World) :
    Calls Ybad.prog 19 #[.agg (V3 k n s), .agg (V3 k' n' s')] w fun e w' => e = .returned (.int .i64 (cmpV k n s n' s')) ∧ Below w.heap.size w w' := by
  by_cases h : k = 2
  · rw [cmpV_s h]; exact compareValues_str k n s k' n' s' w (by simpa using h)
  · rw [cmpV_n h]; exact compareValues_num k n s k' n' s' w (by simpa using h)

/-- bcmp, the law's own mirror. -/
theorem bcmp_any (k : Int) (n : Nat) (s : ByteArray) (k' : Int) (n' : Nat) (s' : ByteArray) (w : World) :
    Calls Ybad.prog 9 #[.agg (V3 k n s), .agg (V3 k' n' s')] w fun e w' => e = .returned (.int .i64 (cmpV k n s n' s')) ∧ w' = (w.alloc (.cells (V3 k n s) 28)).alloc (.cells (V3 k' n' s') 28) := by
  by_cases h : k = 2
  · rw [cmpV_s h]
    have hb : (k == 2) = true := by simpa using h
    clear h
    go_enter Ybad.func9, Ybad.ntmps9
    go_wp2_with (go_at_call 20; refine (compareS_any s s' _).mono ?_; rintro e w' ⟨rfl, rfl⟩)
    go_ret
    exact ⟨rfl, rfl⟩
  · rw [cmpV_n h]
    have hb : (k == 2) = false := by simpa using h
    clear h
    go_enter Ybad.func9, Ybad.ntmps9
    go_wp2_with (go_at_call 21; refine (compareF_any n n' _).mono ?_; rintro e w' ⟨rfl, rfl⟩)
    go_ret
    exact ⟨rfl, rfl⟩

/-- bveq of one Value with itself. -/
theorem bveq_self (k : Int) (n : Nat) (s : ByteArray) (w : World) :
    Calls Ybad.prog 11 #[.agg (V3 k n s), .agg (V3 k n s)] w fun e w' => e = .returned (.bool true) ∧ w' = (w.alloc (.cells (V3 k n s) 28)).alloc (.cells (V3 k n s) 28) := by
  have hf := feq_of_eqv (Eqv.refl n)
  go_enter Ybad.func11, Ybad.ntmps11
  go_wp2_with (go_at_call 10; refine (feq_any n n _).mono ?_; rintro e w' ⟨rfl, rfl⟩)
  go_ret
  exact ⟨rfl, rfl⟩
end Go.Proofs.YbulkbspoDoor
