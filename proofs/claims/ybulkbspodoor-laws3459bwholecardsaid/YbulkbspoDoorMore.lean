/-
  More contracts: the cap of distinct values by type (the table 'types' read), the law's own mirrors, Value's comparisons.
-/
import Derived.Test.YbulkbspoDoorKeys
import Derived.Deep.RegionWith
namespace Go.Proofs.YbulkbspoDoor
open Go.RowKit
attribute [local go_sem] alloc_drewN setCell_drewN run_store_float

/-- The most distinct values by type, as the table holds them (the words of 0, 2, 256, 65536). -/
def tabN (i : Nat) : Nat := if i = 1 then 4611686018427387904 else if i = 2 then 4643211215818981376 else if i = 3 then 4679240012837945344 else 0
/-- WHAT THE TABLE 'types' GIVES THE WALKS: the third cell of each of its thirteen rows. -/
def Tab (w : World) : Prop := ∀ i : Nat, i < 13 → w.cell? ⟨0, i * 4 + 2, none⟩ = some (.float .f64 (tabN i))

def CapR (t : Int) (d r : Nat) : Prop :=
  if t = 1 then MinR d 4611686018427387904 r else if t = 2 then MinR d 4643211215818981376 r else if t = 3 then MinR d 4679240012837945344 r else r = d

theorem capR1 {d r : Nat} (h : MinR d 4611686018427387904 r) : CapR 1 d r := by unfold CapR; rw [if_pos (by decide)]; exact h
theorem capR2 {d r : Nat} (h : MinR d 4643211215818981376 r) : CapR 2 d r := by unfold CapR; rw [if_neg (by decide), if_pos (by decide)]; exact h
theorem capR3 {d r : Nat} (h : MinR d 4679240012837945344 r) : CapR 3 d r := by unfold CapR; rw [if_neg (by decide), if_neg (by decide), if_pos (by decide)]; exact h
theorem capR0 {t : Int} {d : Nat} (h1 : t ≠ 1) (h2 : t ≠ 2) (h3 : t ≠ 3) : CapR t d d := by unfold CapR; rw [if_neg h1, if_neg h2, if_neg h3]

theorem z0 : (FloatKind.f64.format.order 0 0 == some .eq) = true := by decide +kernel
theorem z1 : (FloatKind.f64.format.order 4611686018427387904 0 == some .eq) = false := by decide +kernel
theorem z2 : (FloatKind.f64.format.order 4643211215818981376 0 == some .eq) = false := by decide +kernel
theorem z3 : (FloatKind.f64.format.order 4679240012837945344 0 == some .eq) = false := by decide +kernel

theorem cap_out (t : Int) (h : 13 ≤ t) (h' : t ≤ 255) (d : Nat) (w : World) :
    Calls Ybad.prog 16 #[.int .u8 t, .float .f64 d] w fun e w' => e = .returned (.float .f64 d) ∧ w' = w := by
  go_enter Ybad.func16, Ybad.ntmps16
  go_wp2
  go_ret
  exact ⟨rfl, rfl⟩
theorem cap_zero (t : Nat) (h : t < 13) (d : Nat) (w : World) (hc : w.cell? ⟨0, t * 4 + 2, none⟩ = some (.float .f64 0)) :
    Calls Ybad.prog 16 #[.int .u8 t, .float .f64 d] w fun e w' => e = .returned (.float .f64 d) ∧ w' = w := by
  have z := z0
  have hd : decide (13 ≤ (t : Int)) = false := by simp; omega
  go_enter Ybad.func16, Ybad.ntmps16
  go_wp2
  go_ret
  exact ⟨rfl, rfl⟩
theorem cap_some (t : Nat) (h : t < 13) (d m : Nat) (w : World) (hc : w.cell? ⟨0, t * 4 + 2, none⟩ = some (.float .f64 m)) (z : (FloatKind.f64.format.order m 0 == some .eq) = false) :
    Calls Ybad.prog 16 #[.int .u8 t, .float .f64 d] w fun e w' => ∃ r n, e = .returned (.float .f64 r) ∧ w' = w.drewN n ∧ MinR d m r := by
  have hd : decide (13 ≤ (t : Int)) = false := by simp; omega
  obtain ⟨r, n, hr, hm⟩ := run_min (P := Ybad.prog) #[22, 22] 22 d m w
  go_enter Ybad.func16, Ybad.ntmps16
  go_wp2
  go_ret
  exact ⟨r, n, rfl, rfl, hm⟩

theorem cap_any (t : Int) (h0 : 0 ≤ t) (h1 : t ≤ 255) (d : Nat) (w : World) (tab : Tab w) :
    Calls Ybad.prog 16 #[.int .u8 t, .float .f64 d] w fun e w' => ∃ r n, e = .returned (.float .f64 r) ∧ w' = w.drewN n ∧ CapR t d r := by
  by_cases h : 13 ≤ t
  · refine (cap_out t h h1 d w).mono ?_
    rintro e w' ⟨rfl, rfl⟩
    exact ⟨d, 0, rfl, rfl, capR0 (by omega) (by omega) (by omega)⟩
  · obtain ⟨t, rfl⟩ := Int.eq_ofNat_of_zero_le h0
    have ht : t < 13 := by omega
    have hc := tab t ht
    by_cases e1 : t = 1
    · subst e1
      refine (cap_some 1 ht d _ w hc z1).mono ?_
      rintro e w' ⟨r, n, rfl, rfl, hm⟩
      exact ⟨r, n, rfl, rfl, capR1 hm⟩
    · by_cases e2 : t = 2
      · subst e2
        refine (cap_some 2 ht d _ w hc z2).mono ?_
        rintro e w' ⟨r, n, rfl, rfl, hm⟩
        exact ⟨r, n, rfl, rfl, capR2 hm⟩
      · by_cases e3 : t = 3
        · subst e3
          refine (cap_some 3 ht d _ w hc z3).mono ?_
          rintro e w' ⟨r, n, rfl, rfl, hm⟩
          exact ⟨r, n, rfl, rfl, capR3 hm⟩
        · have hz : tabN t = 0 := by unfold tabN; rw [if_neg e1, if_neg e2, if_neg e3]
          rw [hz] at hc
          refine (cap_zero t ht d w hc).mono ?_
          rintro e w' ⟨rfl, rfl⟩
          exact ⟨d, 0, rfl, rfl, capR0 (by omega) (by omega) (by omega)⟩

/-- bcap, the law's own mirror. -/
theorem bcap_any (t : Int) (d : Nat) (w : World) :
    Calls Ybad.prog 8 #[.int .u8 t, .float .f64 d] w fun e w' => ∃ r n, e = .returned (.float .f64 r) ∧ w' = w.drewN n ∧ CapR t d r := by
  by_cases e1 : t = 1
  · subst e1
    obtain ⟨r, n, hr, hm⟩ := run_min (P := Ybad.prog) #[22, 22] 22 d 4611686018427387904 w
    have H : Hid (CapR 1 d r) := capR1 hm
    clear hm
    go_enter Ybad.func8, Ybad.ntmps8
    go_wp2
    go_ret
    exact ⟨r, n, rfl, rfl, H⟩
  · by_cases e2 : t = 2
    · subst e2
      obtain ⟨r, n, hr, hm⟩ := run_min (P := Ybad.prog) #[22, 22] 22 d 4643211215818981376 w
      have H : Hid (CapR 2 d r) := capR2 hm
      clear hm
      go_enter Ybad.func8, Ybad.ntmps8
      go_wp2
      go_ret
      exact ⟨r, n, rfl, rfl, H⟩
    · by_cases e3 : t = 3
      · subst e3
        obtain ⟨r, n, hr, hm⟩ := run_min (P := Ybad.prog) #[22, 22] 22 d 4679240012837945344 w
        have H : Hid (CapR 3 d r) := capR3 hm
        clear hm
        go_enter Ybad.func8, Ybad.ntmps8
        go_wp2
        go_ret
        exact ⟨r, n, rfl, rfl, H⟩
      · have H : Hid (CapR t d d) := capR0 e1 e2 e3
        have b1 : (t == 1) = false := by simpa using e1
        have b2 : (t == 2) = false := by simpa using e2
        have b3 : (t == 3) = false := by simpa using e3
        go_enter Ybad.func8, Ybad.ntmps8
        go_wp2
        go_ret
        exact ⟨d, 0, rfl, rfl, H⟩

theorem feq_any (x y : Nat) (w : World) :
    Calls Ybad.prog 10 #[.float .f64 x, .float .f64 y] w fun e w' => e = .returned (.bool (feq x y)) ∧ w' = w := by
  unfold feq
  cases h1 : FloatKind.f64.format.order x y == some .eq
  · cases h2 : FloatKind.f64.format.order x x != some .eq
    all_goals
      go_enter Ybad.func10, Ybad.ntmps10
      go_wp2
      go_ret
      exact ⟨rfl, rfl⟩
  · go_enter Ybad.func10, Ybad.ntmps10
    go_wp2
    go_ret
    exact ⟨rfl, rfl⟩

theorem numberValue_any (x : Nat) (w : World) :
    Calls Ybad.prog 12 #[.float .f64 x] w fun e w' => e = .returned (.agg (V3 1 x ⟨#[]⟩)) ∧ w' = w.alloc (.cells (V3 1 x ⟨#[]⟩) 28) := by
  go_enter Ybad.func12, Ybad.ntmps12
  go_wp2
  exact bodyPost_ret (v := .agg (V3 1 x ⟨#[]⟩)) (by simp [results, Ybad.results12, go_sem]) rfl ⟨rfl, rfl⟩

theorem bval_any (k : Int) (h0 : 0 ≤ k) (n : Nat) (s : ByteArray) (w : World) :
    Calls Ybad.prog 13 #[.int .u8 k, .float .f64 n, .string s] w fun e w' => ∃ k' n' s', e = .returned (.agg (V3 k' n' s')) ∧ w' = w.alloc (.cells (V3 k' n' s') 28) := by
  by_cases e0 : k % 3 = 0
  · go_enter Ybad.func13, Ybad.ntmps13
    go_wp2
    exact bodyPost_ret (v := .agg (V3 0 0 ⟨#[]⟩)) (by simp [results, Ybad.results13, go_sem]) rfl ⟨0, 0, ⟨#[]⟩, rfl, rfl⟩
  · by_cases e1 : k % 3 = 1
    · go_enter Ybad.func13, Ybad.ntmps13
      go_wp2
      exact bodyPost_ret (v := .agg (V3 1 n ⟨#[]⟩)) (by simp [results, Ybad.results13, go_sem]) rfl ⟨1, n, ⟨#[]⟩, rfl, rfl⟩
    · have b0 : (k % 3 == 0) = false := by simpa using e0
      have b1 : (k % 3 == 1) = false := by simpa using e1
      go_enter Ybad.func13, Ybad.ntmps13
      go_wp2
      exact bodyPost_ret (v := .agg (V3 2 0 s)) (by simp [results, Ybad.results13, go_sem]) rfl ⟨2, 0, s, rfl, rfl⟩
end Go.Proofs.YbulkbspoDoor
