/-
  Columns, keys: the contracts of drawn, columnKey, sharedValues, capNDV and of the law's own mirror functions bdom and bcap.
-/
import Derived.Test.YbulkbspoDoorSmall
namespace Go.Proofs.YbulkbspoDoor
open Go.RowKit
attribute [local go_sem] alloc_drewN setCell_drewN run_store_float

/-- A Column, by its seventeen cells. -/
structure Col where
  nm : ByteArray
  ty : Int
  ndv : Nat
  has : Bool
  nul : Nat
  ik : Int
  inn : Nat
  ist : ByteArray
  ak : Int
  an : Nat
  ast : ByteArray
  tf : Nat
  ht : Bool
  ma : Option Addr
  ml : Nat
  mc : Nat
  ha : Option Addr
  hl : Nat
  hc : Nat
  dom : Nat
  rows : Nat
abbrev Col.cells (c : Col) : Array Value :=
  #[.string c.nm, .int .u8 c.ty, .float .f64 c.ndv, .bool c.has, .float .f64 c.nul, .int .u8 c.ik, .float .f64 c.inn, .string c.ist, .int .u8 c.ak, .float .f64 c.an, .string c.ast,
    .float .f64 c.tf, .bool c.ht, .slice c.ma c.ml c.mc, .slice c.ha c.hl c.hc, .float .f64 c.dom, .float .f64 c.rows]

def gtB (x y : Nat) : Bool := FloatKind.f64.format.order x y == some .gt
/-- The domain that a key's values are drawn from. -/
def DomR (ndv dom rows d : Nat) : Prop := if gtB dom ndv = true then HeldR ndv dom rows d else d = ndv

/-! ### Blocks: for a whole struct's load, by the kit's law on rows -/
theorem hp_new (w : World) (o : Obj) (k : Nat) (h : k = w.heap.size) : (w.alloc o).heap[k]? = some o := by subst h; show (w.heap.push o)[w.heap.size]? = some o; simp
theorem hp_old (w : World) (o : Obj) (k : Nat) (h : k < w.heap.size) : (w.alloc o).heap[k]? = w.heap[k]? := Below.heap_alloc w o k h
theorem hp_drewN (w : World) (n k : Nat) : (w.drewN n).heap[k]? = w.heap[k]? := rfl
theorem hp_drew (w : World) (k : Nat) : w.drew.heap[k]? = w.heap[k]? := rfl
theorem hp_size (w : World) (o : Obj) : (w.alloc o).heap.size = w.heap.size + 1 := by show (w.heap.push o).size = _; simp

theorem info32 (c : Col) : (Ybad.prog.info? 32).map (·.size) = some c.cells.size := by kernel_rfl

theorem drawn_any (c : Col) (w : World) :
    Calls Ybad.prog 22 #[.agg c.cells] w fun e w' => e = .returned (.bool (gtB c.dom c.ndv)) ∧ w' = w.alloc (.cells c.cells 32) := by
  go_enter Ybad.func22, Ybad.ntmps22
  go_wp2
  go_ret
  exact ⟨rfl, rfl⟩

theorem columnKey_any (c : Col) (w : World) :
    Calls Ybad.prog 15 #[.agg c.cells] w fun e w' => ∃ d k, e = .returned (.agg #[.float .f64 c.ndv, .float .f64 d, .float .f64 k]) ∧ Below w.heap.size w w' ∧ DomR c.ndv c.dom c.rows d := by
  obtain ⟨k, n1, hr1⟩ := run_sub (P := Ybad.prog) 22 4607182418800017408 c.nul ((w.alloc (.cells c.cells 32)).alloc (.cells #[.float .f64 0, .float .f64 0, .float .f64 0] 47))
  cases hg : gtB c.dom c.ndv
  · have hfin : Hid (DomR c.ndv c.dom c.rows c.ndv) := by unfold DomR; rw [hg]; rfl
    go_enter Ybad.func15, Ybad.ntmps15
    go_wp2_with (first
      | (refine wpList_load_row rfl 32 _ rfl _ rfl 32 c.cells (0, 0) _ ?_ Ybad.underlying32 rfl (info32 c) ?_; ((repeat (first | rw [hp_drewN] | rw [hp_old _ _ _ (by simp)] | rw [hp_old _ _ _ (by simp; omega)])); exact hp_new _ _ _ rfl))
      | (go_at_call 22; refine (drawn_any c _).mono ?_; rintro e w' ⟨rfl, rfl⟩))
    refine bodyPost_ret (v := .agg #[.float .f64 c.ndv, .float .f64 c.ndv, .float .f64 k]) (by simp [results, Ybad.results15, go_sem]) rfl ⟨c.ndv, k, rfl, ?_, hfin⟩
    exact below_drewN ((((((Below.refl _ _).alloc (Nat.le_refl _) _).alloc (by simp) _).alloc (by simp; omega) _).alloc (by simp; omega) _)) _
  · go_enter Ybad.func15, Ybad.ntmps15
    go_wp2_with (first
      | (refine wpList_load_row rfl 32 _ rfl _ rfl 32 c.cells (0, 0) _ ?_ Ybad.underlying32 rfl (info32 c) ?_; ((repeat (first | rw [hp_drewN] | rw [hp_old _ _ _ (by simp)] | rw [hp_old _ _ _ (by simp; omega)])); exact hp_new _ _ _ rfl))
      | (go_at_call 22; refine (drawn_any c _).mono ?_; rintro e w' ⟨rfl, rfl⟩)
      | (go_at_call 23; refine (held_any _ _ _ _).mono ?_; rintro e w' ⟨d, n2, rfl, rfl, hd⟩))
    refine bodyPost_ret (v := .agg #[.float .f64 c.ndv, .float .f64 d, .float .f64 k]) (by simp [results, Ybad.results15, go_sem]) rfl ⟨d, k, rfl, ?_, by unfold DomR; rw [if_pos hg]; exact hd⟩
    exact below_drewN ((((((Below.refl _ _).alloc (Nat.le_refl _) _).alloc (by simp) _).alloc (by simp; omega) _).alloc (by simp; omega) _)) _

/-- bdom, the law's own mirror. -/
theorem bdom_any (ndv dom rows : Nat) (w : World) :
    Calls Ybad.prog 7 #[.float .f64 ndv, .float .f64 dom, .float .f64 rows] w fun e w' => ∃ d n, e = .returned (.float .f64 d) ∧ w' = w.drewN n ∧ DomR ndv dom rows d := by
  cases hg : gtB dom ndv
  · have hfin : Hid (DomR ndv dom rows ndv) := by unfold DomR; rw [hg]; rfl
    unfold gtB at hg
    go_enter Ybad.func7, Ybad.ntmps7
    go_wp2
    go_ret
    exact ⟨ndv, 0, rfl, rfl, hfin⟩
  · have hfin : Hid (∀ d, HeldR ndv dom rows d → DomR ndv dom rows d) := fun d hd => by unfold DomR; rw [if_pos hg]; exact hd
    unfold gtB at hg
    obtain ⟨m, n1, hr1, hm⟩ := run_min (P := Ybad.prog) #[22, 22] 22 dom rows w
    obtain ⟨d, n2, hr2, hd⟩ := run_max (P := Ybad.prog) #[22, 22] 22 ndv m (w.drewN n1)
    go_enter Ybad.func7, Ybad.ntmps7
    go_wp2
    go_ret
    exact ⟨d, _, rfl, rfl, hfin.out d ⟨m, hm, hd⟩⟩

/-! ### sharedValues -/
def ltB (x y : Nat) : Bool := FloatKind.f64.format.order x y == some .lt
def leB (x y : Nat) : Bool := FloatKind.f64.format.order x y == some .lt || FloatKind.f64.format.order x y == some .eq
/-- 'bn * (an / da)', or 0 where the domain is not above 0. -/
def CoreR (an da bn r : Nat) : Prop := if leB da 0 = true then r = 0 else ∃ q, DivR an da q ∧ MulR bn q r
def SharedR (an da bn db r : Nat) : Prop := if ltB da db = true then CoreR bn db an r else CoreR an da bn r

theorem core_zero {an da bn : Nat} (h : leB da 0 = true) : CoreR an da bn 0 := by unfold CoreR; rw [if_pos h]
theorem core_some {an da bn q r : Nat} (h : leB da 0 = false) (hq : DivR an da q) (hr : MulR bn q r) : CoreR an da bn r := by
  unfold CoreR; rw [if_neg (by rw [h]; decide)]; exact ⟨q, hq, hr⟩
theorem shared_keep {an da bn db r : Nat} (h : ltB da db = false) (k : CoreR an da bn r) : SharedR an da bn db r := by
  unfold SharedR; rw [if_neg (by rw [h]; decide)]; exact k
theorem shared_swap {an da bn db r : Nat} (h : ltB da db = true) (k : CoreR bn db an r) : SharedR an da bn db r := by
  unfold SharedR; rw [if_pos h]; exact k

abbrev K3 (n d k : Nat) : Array Value := #[.float .f64 n, .float .f64 d, .float .f64 k]
theorem shared_any (an da ka bn db kb : Nat) (w : World) :
    Calls Ybad.prog 14 #[.agg (K3 an da ka), .agg (K3 bn db kb)] w fun e w' => ∃ r, e = .returned (.float .f64 r) ∧ Below w.heap.size w w' ∧ SharedR an da bn db r := by
  cases h1 : ltB da db
  · have H1 : Hid (ltB da db = false) := h1
    unfold ltB at h1
    cases h2 : leB da 0
    · have H2 : Hid (leB da 0 = false) := h2
      unfold leB at h2
      obtain ⟨q, n1, hr1, hq⟩ := run_div (P := Ybad.prog) 22 an da ((w.alloc (.cells (K3 an da ka) 47)).alloc (.cells (K3 bn db kb) 47))
      obtain ⟨r, n2, hr2, hr⟩ := run_mul (P := Ybad.prog) 22 bn q (((w.alloc (.cells (K3 an da ka) 47)).alloc (.cells (K3 bn db kb) 47)).drewN n1)
      go_enter Ybad.func14, Ybad.ntmps14
      go_wp2
      go_ret
      exact ⟨r, rfl, below_drewN (((Below.refl _ _).alloc (Nat.le_refl _) _).alloc (by simp) _) _, shared_keep H1 (core_some H2 hq hr)⟩
    · have H2 : Hid (leB da 0 = true) := h2
      unfold leB at h2
      go_enter Ybad.func14, Ybad.ntmps14
      go_wp2
      go_ret
      exact ⟨0, rfl, (((Below.refl _ _).alloc (Nat.le_refl _) _).alloc (by simp) _), shared_keep H1 (core_zero H2)⟩
  · have H1 : Hid (ltB da db = true) := h1
    unfold ltB at h1
    cases h2 : leB db 0
    · have H2 : Hid (leB db 0 = false) := h2
      unfold leB at h2
      obtain ⟨q, n1, hr1, hq⟩ := run_div (P := Ybad.prog) 22 bn db ((w.alloc (.cells (K3 bn db kb) 47)).alloc (.cells (K3 an da ka) 47))
      obtain ⟨r, n2, hr2, hr⟩ := run_mul (P := Ybad.prog) 22 an q (((w.alloc (.cells (K3 bn db kb) 47)).alloc (.cells (K3 an da ka) 47)).drewN n1)
      go_enter Ybad.func14, Ybad.ntmps14
      go_wp2
      go_ret
      exact ⟨r, rfl, below_drewN (((Below.refl _ _).alloc (Nat.le_refl _) _).alloc (by simp) _) _, shared_swap H1 (core_some H2 hq hr)⟩
    · have H2 : Hid (leB db 0 = true) := h2
      unfold leB at h2
      go_enter Ybad.func14, Ybad.ntmps14
      go_wp2
      go_ret
      exact ⟨0, rfl, (((Below.refl _ _).alloc (Nat.le_refl _) _).alloc (by simp) _), shared_swap H1 (core_zero H2)⟩
end Go.Proofs.YbulkbspoDoor
