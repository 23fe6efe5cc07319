/-
  zzs3459bcol, one of four cases (is there a most-common value; is there a histogram).
-/
import Derived.Test.YbulkbspoDoorCol
namespace Go.Proofs.YbulkbspoDoor
open Go.RowKit
attribute [local go_sem] alloc_drewN setCell_drewN run_store_float

set_option maxHeartbeats 800000 in
theorem bcol_01 (s : Side) (name : ByteArray) (w : World) (hi0 : 0 ≤ s.ik) (ha0 : 0 ≤ s.ak) (hm0 : 0 ≤ s.nm) (hh0 : 0 ≤ s.nh) (hm : s.nm % 4 = 0) (k : Nat) (hk1 : (0 : Int) < (k : Int)) (hk4 : (k : Int) < 4) (hh : s.nh % 4 = (k : Int)) :
    Calls Ybad.prog 5 #[.agg s.cells, .string name] w fun e w' => ∃ c : Col, e = .returned (.agg c.cells) ∧ Below w.heap.size w w' ∧ ColOf c s name := by
  have Hm : Hid (s.nm % 4 = (0 : Nat)) := hm
  have Hh : Hid (s.nh % 4 = (k : Nat)) := hh
  obtain ⟨cs2, hmk2⟩ := make30 k (by omega) (by omega)
  go_enter Ybad.func5, Ybad.ntmps5
  go_wp2
  go_region_held3 (fun w' => One w.heap.size w w.heap.size s.cells w')
    (repeat (first | exact One.start _ _ _ | refine One.drew' ?_ | refine One.drewN' ?_ _ | refine One.alloc' ?_ _))
    (first
    | (go_at_call_of 13 (Value.int IntKind.u8 s.ik); refine (bval_any _ hi0 _ _ _).mono ?_; rintro e w' ⟨k1, n1, s1, rfl, rfl⟩)
    | (go_at_call_of 13 (Value.int IntKind.u8 s.ak); refine (bval_any _ ha0 _ _ _).mono ?_; rintro e w' ⟨k2, n2, s2, rfl, rfl⟩))
  go_wp2
  rename_i hh
  refine bodyPost_ret (v := .agg ({ nm := name, ty := s.ty, ndv := s.ndv, has := s.has, nul := s.nul, ik := k1, inn := n1, ist := s1, ak := k2, an := n2, ast := s2, tf := s.tf, ht := s.ht, ma := none, ml := 0, mc := 0, ha := (some ⟨w.heap.size + 1 + 1, 0, none⟩), hl := k, hc := k, dom := s.dom, rows := s.rows } : Col).cells) (results_cell_row Ybad.results5 _ _ (w.heap.size + 1) 32 _ (0, 0) _ rfl ?_ Ybad.underlying32 rfl (info32 _)) rfl ⟨_, rfl, hh.2.1, rfl, rfl, rfl, Hm.out.symm, Hh.out.symm⟩
  rw [hp_drew, hp_old _ _ _ (by simp only [hp_size]; omega), hp_old _ _ _ (by simp only [hp_size]; omega), hp_old _ _ _ (by simp only [hp_size]; omega)]; exact hp_new _ _ _ (by simp only [hp_size])
end Go.Proofs.YbulkbspoDoor
