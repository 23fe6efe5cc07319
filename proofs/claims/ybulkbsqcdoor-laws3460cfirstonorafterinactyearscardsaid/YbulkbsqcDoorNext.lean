/-
  NextBankBusinessDay.
-/
import Derived.Test.YbulkbsqcDoorBiz
import Derived.Deep.WholeRow
namespace Go.Proofs.YbulkbsqcDoor
open Go.RowKit

theorem far_biz : Cal.biz Cal.far = true := by decide +kernel

theorem hp_at (w : World) (o : Obj) (k : Nat) (h : k = w.heap.size) : (w.alloc o).heap[k]? = some o := by subst h; show (w.heap.push o)[w.heap.size]? = some o; simp

/-- The day's box and the result's. -/
structure Nx (w : World) (e : Int) (w' : World) : Prop where
  bel : Below w.heap.size w w'
  lt : w.heap.size + 1 < w'.heap.size
  box : w'.heap[w.heap.size]? = some (.cells #[.int .i64 e] 24)
  res : w'.heap[w.heap.size + 1]? = some (.cells #[.int .i64 0] 24)
theorem Nx.step {w : World} {e : Int} {w1 w2 : World} (h : Nx w e w1) (k : Below w1.heap.size w1 w2) : Nx w e w2 := by
  have := h.lt
  exact ⟨h.bel.trans (k.mono h.bel.size), Nat.lt_of_lt_of_le h.lt k.size, by rw [k.block _ (by omega)]; exact h.box, by rw [k.block _ h.lt]; exact h.res⟩
theorem Nx.alloc' {w : World} {e : Int} {w1 : World} (h : Nx w e w1) (o : Obj) : Nx w e (w1.alloc o) := h.step ((Below.refl _ _).alloc (Nat.le_refl _) o)
theorem Nx.start (w : World) (e : Int) : Nx w e ((w.alloc (.cells #[.int .i64 e] 24)).alloc (.cells #[.int .i64 0] 24)) := by
  refine ⟨((Below.refl _ _).alloc (Nat.le_refl _) _).alloc (by simp) _, by simp only [sz_alloc]; omega, ?_, ?_⟩
  · rw [Below.heap_alloc _ _ _ (by rw [sz_alloc]; omega)]; show (w.heap.push _)[w.heap.size]? = _; simp
  · exact hp_at _ _ _ (by rw [sz_alloc])
theorem Nx.ld {rb ro fb fo : Nat} {w : World} {d : Int} {w1 : World} (h : Nx w d w1) (l : LD rb ro fb fo w) : LD rb ro fb fo w1 := l.below (Nat.le_refl _) h.bel
/-- What is left till the day that is surely one. -/
def leftTo (b : Nat) (w : World) : Nat := (Cal.far - intOf ((w.cell? ⟨b, 0, none⟩).getD undef)).toNat
theorem cell_one {w : World} {b : Nat} {v : Value} {t : TypeId} (h : w.heap[b]? = some (.cells #[v] t)) : w.cell? ⟨b, 0, none⟩ = some v := by simp [World.cell?, h]
theorem thaw_one {w : World} {b : Nat} {v : Value} {t : TypeId} (h : w.heap[b]? = some (.cells #[v] t)) : w.frozen? ⟨b, 0, none⟩ = false := by simp [World.frozen?, h]
theorem leftTo_of {w : World} {b : Nat} {e : Int} (h : w.cell? ⟨b, 0, none⟩ = some (.int .i64 e)) : leftTo b w = (Cal.far - e).toNat := by simp [leftTo, h, intOf]
theorem Nx.set {w : World} {e : Int} {w1 : World} (h : Nx w e w1) (e' : Int) : Nx w e' (w1.setCell ⟨w.heap.size, 0, none⟩ (.int .i64 e')) := by
  refine ⟨h.bel.setCell (Nat.le_refl _) _, by simp only [World.setCell, Array.size_modify]; exact h.lt, ?_, ?_⟩
  · simp [World.setCell, Array.getElem?_modify, h.box]
  · rw [Below.heap_setCell _ _ _ _ (by show w.heap.size + 1 ≠ w.heap.size; omega)]; exact h.res

/-- The first business day on or after d. -/
structure First (d r : Int) : Prop where
  ge : d ≤ r
  le : r ≤ Cal.far
  biz : Cal.biz r = true
  no : ∀ x, d ≤ x → x < r → Cal.biz x = false

set_option maxHeartbeats 1000000 in
theorem next_any (d : Int) (hd : -2999999998 ≤ d) (hd' : d ≤ Cal.far) (rb ro fb fo : Nat) (w : World) (ld : LD rb ro fb fo w) :
    Calls Ybad.prog 7 #[.agg #[.int .i64 d]] w fun e w' => ∃ r, e = .returned (.agg #[.int .i64 r]) ∧ First d r ∧ Below w.heap.size w w' := by
  have L : Hid (LD rb ro fb fo w) := ld
  clear ld
  have F : Hid (Cal.far = 2147483757) := rfl
  go_enter Ybad.func7, Ybad.ntmps7
  go_wp2
  go_loopw [3] (fun _ wr => ∃ e, d ≤ e ∧ e ≤ Cal.far ∧ (∀ x, d ≤ x → x < e → Cal.biz x = false) ∧ Nx w e wr) (fun _ wr => leftTo w.heap.size wr)
  case atStart => exact ⟨d, by omega, hd', fun x _ _ => by omega, Nx.start w d⟩
  case round =>
    obtain ⟨e, e0, e1, hno, hx⟩ := hrel
    have HN : Hid (∀ x, d ≤ x → x < e → Cal.biz x = false) := hno
    have HX : Hid (Nx w e wr) := hx
    have c0 := cell_one hx.box
    have e2 : e ≤ 2147483757 := by have := F.out; omega
    clear hno hx
    have C0 : Hid (wr.cell? ⟨w.heap.size, 0, none⟩ = some (.int .i64 e)) := c0
    cases hb : Cal.biz e
    · have HB : Hid (Cal.biz e = false) := hb
      have e3 : e < Cal.far := by
        have : e ≠ Cal.far := fun h => by rw [h, far_biz] at hb; cases hb
        omega
      go_wp2_with (first
        | (go_at_call 8; refine (biz_any e (by omega) (by omega) rb ro fb fo _ (HX.out.ld L.out)).mono ?_; rintro e' w1 ⟨rfl, hb1⟩; have X1 : Hid (Nx w e w1) := HX.out.step hb1; have c1 := cell_one X1.out.box; have f1 := thaw_one X1.out.box; have z1 : w.heap.size < w1.heap.size := Nat.lt_of_succ_lt X1.out.lt; clear hb1)
        | (go_at_call 10; refine (addDays_any e _ (by omega) (by omega) (by omega) (by omega) _).mono ?_; rintro e' w2 ⟨rfl, rfl⟩))
      have X2 : Nx w (e + 1) (((w1.setCell ⟨w.heap.size, 0, none⟩ (.int .i64 (e + 1))).alloc (.cells #[.int .i64 e] 24)).alloc (.cells #[.int .i64 (e + 1)] 24)) := ((X1.out.set (e + 1)).alloc' _).alloc' _
      refine ⟨⟨e + 1, by omega, by omega, fun x h1 h2 => ?_, X2⟩, ?_⟩
      · by_cases hx : x = e
        · rw [hx]; exact HB.out
        · exact HN.out x h1 (by omega)
      · rw [leftTo_of (cell_one X2.box), leftTo_of C0.out]; omega
    · have HB : Hid (Cal.biz e = true) := hb
      go_wp2_with (go_at_call 8; refine (biz_any e (by omega) (by omega) rb ro fb fo _ (HX.out.ld L.out)).mono ?_; rintro e' w1 ⟨rfl, hb1⟩; have X1 : Hid (Nx w e w1) := HX.out.step hb1; have c1 := cell_one X1.out.box; have c2 := cell_one X1.out.res; have f2 := thaw_one X1.out.res; clear hb1)
      have c3 : (w1.setCell ⟨w.heap.size + 1, 0, none⟩ (.int .i64 e)).cell? ⟨w.heap.size + 1, 0, none⟩ = some (.int .i64 e) := World.cell?_setCell_same _ _ _ c2
      exact bodyPost_ret (v := .agg #[.int .i64 e]) (by simp [results, Ybad.results7, go_sem, c3]) rfl ⟨e, rfl, ⟨e0, e1, HB.out, HN.out⟩, X1.out.bel.setCell (by show w.heap.size ≤ w.heap.size + 1; omega) _⟩
end Go.Proofs.YbulkbsqcDoor
