/-
  zzs3459bcol: the four cases together.
-/
import Derived.Test.YbulkbspoDoorCol00
import Derived.Test.YbulkbspoDoorCol01
import Derived.Test.YbulkbspoDoorCol10
import Derived.Test.YbulkbspoDoorCol11
namespace Go.Proofs.YbulkbspoDoor
open Go.RowKit

/-- What 'open' hands over of a side: its integers fit their kinds. -/
structure Side.Ok (s : Side) : Prop where
  ty0 : 0 ≤ s.ty
  ty1 : s.ty ≤ 255
  ik0 : 0 ≤ s.ik
  ak0 : 0 ≤ s.ak
  nm0 : 0 ≤ s.nm
  nh0 : 0 ≤ s.nh

theorem bcol_any (s : Side) (h : s.Ok) (name : ByteArray) (w : World) :
    Calls Ybad.prog 5 #[.agg s.cells, .string name] w fun e w' => ∃ c : Col, e = .returned (.agg c.cells) ∧ Below w.heap.size w w' ∧ ColOf c s name := by
  have hm := Int.emod_nonneg s.nm (show (4 : Int) ≠ 0 by decide)
  have hm' := Int.emod_lt_of_pos s.nm (show (0 : Int) < 4 by decide)
  have hh := Int.emod_nonneg s.nh (show (4 : Int) ≠ 0 by decide)
  have hh' := Int.emod_lt_of_pos s.nh (show (0 : Int) < 4 by decide)
  obtain ⟨m, em⟩ := Int.eq_ofNat_of_zero_le hm
  obtain ⟨k, ek⟩ := Int.eq_ofNat_of_zero_le hh
  by_cases m0 : m = 0
  · subst m0
    by_cases k0 : k = 0
    · subst k0
      exact bcol_00 s name w h.ik0 h.ak0 h.nm0 h.nh0 em ek
    · exact bcol_01 s name w h.ik0 h.ak0 h.nm0 h.nh0 em k (by omega) (by omega) ek
  · by_cases k0 : k = 0
    · subst k0
      exact bcol_10 s name w h.ik0 h.ak0 h.nm0 h.nh0 m (by omega) (by omega) em ek
    · exact bcol_11 s name w h.ik0 h.ak0 h.nm0 h.nh0 m (by omega) (by omega) em k (by omega) (by omega) ek
end Go.Proofs.YbulkbspoDoor
