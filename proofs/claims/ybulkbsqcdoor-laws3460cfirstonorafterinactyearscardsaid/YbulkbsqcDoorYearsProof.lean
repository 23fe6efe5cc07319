/-
  'LawS3460CFirstOnOrAfterInActYears': the row proved, and its tied card.
-/
import Derived.Test.YbulkbsqcDoorMet
import Derived.Test.YbulkbsqcDoorCards
import Derived.OpenVars
import Derived.ChangeBears2
import Derived.Laws.Cover2
namespace Go.Proofs.YbulkbsqcDoor.lawS3460CFirstOnOrAfterInActYears
open Go.ChangeShapes Go.WideShapes Go.ChangeAt Go.RowKit Go.Deep

theorem five {H : Type} {enc : TypeId × Value → H} {P : Program} {w : World} {sp : Nat → Bool} {n1 n2 n3 n4 n5 : String} : ∀ {gs : List (DataW H)} {ps : List MemPlace}, DataW.TrodVars enc P w sp [n1, n2, n3, n4, n5] gs ps → ∃ a b c d e, gs = [a, b, c, d, e]
  | [a, b, c, d, e], _, _ => ⟨a, b, c, d, e, rfl⟩
  | [], _, h => h.elim
  | [_], _, ⟨_, _, _, _, _, _, _, _, _, _, h, _⟩ => h.elim
  | [_, _], _, ⟨_, _, _, _, _, _, _, _, _, _, ⟨_, _, _, _, _, _, _, _, _, _, h, _⟩, _⟩ => h.elim
  | [_, _, _], _, ⟨_, _, _, _, _, _, _, _, _, _, ⟨_, _, _, _, _, _, _, _, _, _, ⟨_, _, _, _, _, _, _, _, _, _, h, _⟩, _⟩, _⟩ => h.elim
  | [_, _, _, _], _, ⟨_, _, _, _, _, _, _, _, _, _, ⟨_, _, _, _, _, _, _, _, _, _, ⟨_, _, _, _, _, _, _, _, _, _, ⟨_, _, _, _, _, _, _, _, _, _, h, _⟩, _⟩, _⟩, _⟩ => h.elim
  | _ :: _ :: _ :: _ :: _ :: _ :: _, _, ⟨_, _, _, _, _, _, _, _, _, _, ⟨_, _, _, _, _, _, _, _, _, _, ⟨_, _, _, _, _, _, _, _, _, _, ⟨_, _, _, _, _, _, _, _, _, _, ⟨_, _, _, _, _, _, _, _, _, _, h, _⟩, _⟩, _⟩, _⟩, _⟩ => h.elim

set_option maxRecDepth 100000 in
theorem lifted (os : Os) (started : os.Started) (H : Type) (enc : TypeId × Value → H) :
    ReturnsInHanded {} Ybad.checked os 4 .any (fun w args => (Rows.lawS3460CFirstOnOrAfterInActYearsSpec.pre enc Ybad.prog Ybad.f4 [] false w args ∧ laidMetH Ybad.prog laid5 w) ∧ sizedMet enc Ybad.prog Ybad.f4 (OpenSpec.ofChange Rows.lawS3460CFirstOnOrAfterInActYearsSpec) false w args)
      (Rows.lawS3460CFirstOnOrAfterInActYearsSpec.post enc Ybad.prog Ybad.f4 false true false false) := by
  refine returnsInHanded_of_change_and (C := Ybad.checked) (X := fun w _ => laidMetH Ybad.prog laid5 w) (fun _ _ _ hh h => h.of_heap hh) own started (by kernel_rfl) Ybad.func4
    (ChangeSpec.witness_shaped (enc := enc) (C := Ybad.checked) (os := os) (X := fun w _ => laidMetH Ybad.prog laid5 w) false (World.doorLaid Ybad.prog 658 os) #[.int .u8 0, .int .u16 0] 8 rfl (World.shaped_of_RefB (by kernel_rfl) (by kernel_rfl)) (by kernel_rfl) (by kernel_rfl) (by kernel_rfl) (door_met os _)) ?_
  intro W base args ds gs before hval0 hW _ _ hL _
  have hval : ∀ (j : Nat) t v, Ybad.f4.params[j]? = some t → args[j]? = some v → Value.okWide Ybad.prog W .any base t v := hval0
  have hW' := hW
  obtain ⟨p, q, hA0, hV0, rfl, hfz, hnd⟩ := hW
  have hA : DataW.TrodAll enc Ybad.prog W 0 (fun _ => true) true Ybad.f4.params.toList args.toList ds p := hA0
  rw [Ybad.params4] at hA hval
  obtain ⟨v0, vs0, d0, ds0, p0, q0, hargs, rfl, rfl, h0, r0⟩ := trodAll_cons hA
  obtain ⟨v1, vs1, d1, ds1, p1, q1, rfl, rfl, rfl, h1, r1⟩ := trodAll_cons r0
  obtain ⟨rfl, rfl, rfl⟩ := trodAll_nil r1
  obtain rfl : args = #[v0, v1] := by cases args; simp_all
  obtain ⟨n, rfl, rfl, rfl, wn⟩ := open_int Ybad.underlying5 (hval 0 5 v0 rfl rfl) h0
  obtain ⟨k, rfl, rfl, rfl, wk⟩ := open_int Ybad.underlying26 (hval 1 26 v1 rfl rfl) h1
  obtain ⟨rb, ro, fb, fo, ld⟩ := of_laid hL
  have hv' := fun (W' : World) (bel : Below W.heap.size W W') => Below.trodVars laidOut bel (show varsRowed Ybad.prog Rows.lawS3460CFirstOnOrAfterInActYearsSpec.vars = true by kernel_rfl) hV0
  obtain ⟨g1, g2, g3, g4, g5, rfl⟩ := five hV0
  clear hA0 hV0 hval0 hA hargs
  obtain ⟨n0, n1⟩ : 0 ≤ n ∧ n ≤ 255 := by
    have h1 : decide (IntKind.min .u8 ≤ n) = true ∧ decide (n ≤ IntKind.max .u8) = true := by
      have h2 : (decide (IntKind.min .u8 ≤ n) && decide (n ≤ IntKind.max .u8)) = true := wn
      simpa using h2
    exact ⟨of_decide_eq_true h1.1, of_decide_eq_true h1.2⟩
  obtain ⟨k0, k1⟩ : 0 ≤ k ∧ k ≤ 65535 := by
    have h1 : decide (IntKind.min .u16 ≤ k) = true ∧ decide (k ≤ IntKind.max .u16) = true := by
      have h2 : (decide (IntKind.min .u16 ≤ k) && decide (k ≤ IntKind.max .u16)) = true := wk
      simpa using h2
    exact ⟨of_decide_eq_true h1.1, of_decide_eq_true h1.2⟩
  refine (law4_any n k n0 n1 k0 k1 rb ro fb fo W ld).mono fun e W' ⟨he, bel⟩ => ?_
  subst he
  exact ⟨_, rfl, _, _, _, [], _, _, hW', trodAll_mk1 (shut_bool Ybad.underlying4 _), trodAll_cons_mk (shut_int Ybad.underlying5 wn) (trodAll_cons_mk (shut_int Ybad.underlying26 wk) trodAll_mk0), hv' W' bel, bel.frame _, fun h => by cases h⟩

theorem row : Rows.LawS3460CFirstOnOrAfterInActYearsSaid :=
  OpenClaim.holds_of_wide 4 Ybad.f4 rfl rfl rfl rfl rfl rfl rfl ⟨rfl, rfl, rfl, rfl, rfl⟩ rfl rfl rfl rfl rfl (by kernel_rfl) Ybad.func4 (by kernel_rfl)
    (of_decide_eq_true (by kernel_rfl)) (by unfold Func.isWrapper; first | (rw [if_pos (by decide +kernel)]; kernel_rfl) | (rw [if_neg (by decide +kernel)]; exact ⟨rfl, rfl⟩))
    (fun os started H enc _ => lifted os started H enc)

/-- THE CARD. -/
theorem proved : Rows.LawS3460CFirstOnOrAfterInActYearsCardSaid :=
  Claim7.holds_tied_plain_at .later [] [.called, .called, .called, .called, .wider] true (true, "f38d270ec80e94d72b35ddb0a343f60e0666b53597261fa79b8da0b47b056297") false
    row (fun _ h => by cases h) (by kernel_rfl) (fun _ h => by cases h) lawS3460CFirstOnOrAfterInActYears_row_tie rfl ⟨rfl, rfl⟩ (by kernel_rfl) rfl
    (fun f fn hf hfn => by
      obtain rfl : f = 4 := Option.some.inj ((show Ybad.prog.funcNamed Rows.lawS3460CFirstOnOrAfterInActYearsRow.func = some 4 by kernel_rfl).symm.trans hf) |>.symm
      obtain rfl : fn = Ybad.f4 := (Option.some.inj (Ybad.func4.symm.trans hfn)).symm
      exact ⟨by kernel_rfl, fun j t ht => by
        rw [Ybad.params4] at ht
        have hm : t ∈ [5, 26] := by simpa using Array.mem_of_getElem? ht
        have hall : ([5, 26].all fun u => !Ybad.prog.wantsStandIn u) = true := by kernel_rfl
        exact (show Ybad.prog.wantsStandIn t = false by simpa using List.all_eq_true.1 hall t hm)⟩)
    (by kernel_rfl)
#print axioms proved
end Go.Proofs.YbulkbsqcDoor.lawS3460CFirstOnOrAfterInActYears
