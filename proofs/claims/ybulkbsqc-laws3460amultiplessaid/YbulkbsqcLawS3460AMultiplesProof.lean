/-
  THE SHELL OF A PROOF OF 'Rows.LawS3460AMultiplesSaid' ('example.com/shokan/shokan.LawS3460AMultiples'), WRITTEN BY PROGRAM (proof-skeleton.mjs) off the guide's own print for that function. Not trusted: Lean checks it.
  ALL BUT THE WALK IS THE GUIDE's TEMPLATE (howto/template/XProofs.lean) at this function's number and types: leave it.
-/
import Derived.Test.YbulkbsqcRows
import Derived.WalkKit
import Derived.ProofKit
import Derived.OpenShut
import Derived.ShutString
import Derived.Test.YbulkbsqcMult
namespace Go.Proofs.Ybulkbsqc.lawS3460AMultiples
open Go.ChangeShapes Go.WideShapes Go.ChangeAt Go.RowKit
open Go.ChangeMaps (open_string shut_string)
set_option linter.unusedVariables false      -- a walk need not use every 'w<i>' (that an integer argument fits its kind)

theorem own : ownKnob Yba.prog.godebug = none := by kernel_rfl

theorem prod_in (a b : Int) (h0 : 0 ≤ a) (h1 : a ≤ 4294967295) (k0 : 0 ≤ b) (k1 : b ≤ 65535) : 0 < (b + 1) * (a + 1) ∧ (b + 1) * (a + 1) ≤ 281474976710656 := by
  have e : (b + 1) * (a + 1) ≤ 65536 * 4294967296 := Int.mul_le_mul (by omega) (by omega) (by omega) (by omega)
  exact ⟨Int.mul_pos (by omega) (by omega), by omega⟩

/-! ### STEP 1: THE WALK: the Go text returns true. 'Grown w w'': the world has at most new blocks (Derived/RowKit3.lean). Part the cases AHEAD of 'go_enter' where a test parts the walk; take each callee by a contract of your own. -/
theorem walk (a0 : Int) (a1 : Int) (w0 : (Lit.int .u32 a0).wf = true) (w1 : (Lit.int .u16 a1).wf = true) (w : World) :
    Calls Yba.prog 4 #[.int .u32 a0, .int .u16 a1] w fun e w' => e = .returned (.bool true) ∧ Grown w w' := by
  obtain ⟨lo0, hi0⟩ : 0 ≤ a0 ∧ a0 ≤ 4294967295 := bounds_u32 w0
  obtain ⟨lo1, hi1⟩ : 0 ≤ a1 ∧ a1 ≤ 65535 := bounds_u16 w1
  by_cases h1 : a0 = 0
  · subst h1
    exact mult_one a1 lo1 hi1 w
  · obtain ⟨p1, p2⟩ := prod_in a0 a1 lo0 hi0 lo1 hi1
    refine mult_more a0 a1 ((a1 + 1) * (a0 + 1)) (by omega) hi0 lo1 hi1 p1 p2 ?_ (by simp) ?_ w
    · generalize (a1 + 1) * (a0 + 1) = q at p1 p2 ⊢
      unfold wrap64; omega
    · have : ((a1 + 1) * (a0 + 1) + 1) % (a0 + 1) = 1 := by
        rw [Int.add_comm, Int.add_mul_emod_self_right]
        exact Int.emod_eq_of_lt (by omega) (by omega)
      rw [this]; rfl

/-! ### THE ROW's STEP: WRITTEN OUT: LEAVE IT -/
set_option maxRecDepth 100000 in
theorem lifted (os : Os) (started : os.Started) (H : Type) (enc : TypeId × Value → H) :
    ReturnsInHanded {} Yba.checked os 4 .any (Rows.lawS3460AMultiplesSpec.pre6 enc Yba.prog Yba.f4 Rows.lawS3460AMultiplesRow.domain false) (Rows.lawS3460AMultiplesSpec.post enc Yba.prog Yba.f4 false true false false) := by
  refine returnsInHanded_of_change (C := Yba.checked) own started (by kernel_rfl) Yba.func4
    (ChangeSpec.witness6 (enc := enc) (C := Yba.checked) false ⟨#[], #[.int .u32 0, .int .u16 0], []⟩ 8 (by kernel_rfl) (by kernel_rfl) (by kernel_rfl) (by kernel_rfl)) ?_
  intro W base args ds gs before hval0 hW hcnd _
  have hval : ∀ (j : Nat) t v, Yba.f4.params[j]? = some t → args[j]? = some v → Value.okWide Yba.prog W .any base t v := hval0
  have hW' := hW
  obtain ⟨p, q, hA0, hV, rfl, hfz, hnd⟩ := hW
  have hA : DataW.TrodAll enc Yba.prog W 0 (fun _ => true) true Yba.f4.params.toList args.toList ds p := hA0
  rw [Yba.params4] at hA hval
  obtain ⟨v0, vs0, d0, ds0, p0, q0, hargs, rfl, rfl, h0, r0⟩ := trodAll_cons hA
  obtain ⟨v1, vs1, d1, ds1, p1, q1, rfl, rfl, rfl, h1, r1⟩ := trodAll_cons r0
  obtain ⟨rfl, rfl, rfl⟩ := trodAll_nil r1
  obtain rfl : args = #[v0, v1] := by cases args; simp_all
  obtain ⟨rfl, rfl⟩ := trodVars_none hV
  obtain ⟨a0, rfl, rfl, rfl, w0⟩ := open_int Yba.underlying31 (hval 0 31 v0 rfl rfl) h0
  obtain ⟨a1, rfl, rfl, rfl, w1⟩ := open_int Yba.underlying32 (hval 1 32 v1 rfl rfl) h1
  clear hA0 hval0
  simp only [List.append_nil] at hW'
  refine (walk a0 a1 w0 w1 W).mono fun e W' ⟨he, hg⟩ => ?_
  subst he
  exact ⟨_, rfl, post_of_same (pa := []) (pv := []) hW' (fun _ _ _ => (trodAll_cons_mk (shut_bool Yba.underlying4 _) trodAll_mk0)) (fun sp _ => (trodAll_cons_mk (shut_int Yba.underlying31 w0) (trodAll_cons_mk (shut_int Yba.underlying32 w1) trodAll_mk0))) (fun _ _ => rfl) rfl
    (hg.frame _) hg.2.1 (ok_one (by kernel_rfl) rfl (okWide_bool_mk Yba.underlying4 _))⟩

theorem over : Rows.lawS3460AMultiplesRow.holds Yba.pinned (OpenSpec.ofChange Rows.lawS3460AMultiplesSpec) :=
  OpenClaim.holds_of_wide 4 Yba.f4 rfl rfl rfl rfl rfl rfl rfl ⟨rfl, rfl, rfl, rfl, rfl⟩ rfl rfl rfl rfl rfl (by kernel_rfl) Yba.func4 (by kernel_rfl)
    (of_decide_eq_true (by kernel_rfl)) (by unfold Func.isWrapper; first | (rw [if_pos (by decide +kernel)]; kernel_rfl) | (rw [if_neg (by decide +kernel)]; exact ⟨rfl, rfl⟩))
    (fun os started H enc _ => lifted os started H enc)

/-- ████ THE STATEMENT ████ -/
theorem proved : Rows.LawS3460AMultiplesSaid :=
  over
#print axioms proved
end Go.Proofs.Ybulkbsqc.lawS3460AMultiples
