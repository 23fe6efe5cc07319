/-
  How a side comes in; what the listed table 'types' gives the walks.
-/
import Derived.Test.YbulkbspoDoorCols
import Derived.Test.YbulkbspoDoorTie
import Derived.ProofKit
import Derived.LaidMore
import Derived.OpenShut
import Derived.Deep.Fields
import Derived.Stop.Joined
namespace Go.Proofs.YbulkbspoDoor
open Go.ChangeShapes Go.WideShapes Go.ChangeAt Go.RowKit Go.Deep

theorem own : ownKnob Ybad.prog.godebug = none := by kernel_rfl
theorem laidOut : laidOutB Ybad.prog = true := by kernel_rfl

section
variable {H : Type} {enc : TypeId × Value → H} {P : Program} {w : World} {base : Nat} {spare : Nat → Bool} {held : Bool}
theorem trod_float {k : FloatKind} {t : TypeId} {fuel : Nat} {cs : List Value} {x : DataW H × List MemPlace} (ht : P.underlying t = some (.float k)) (h : DataW.trod enc P w base spare held fuel t cs = some x) : ∃ b, cs = [.float k b] := by
  cases fuel with
  | zero => simp [DataW.trod] at h
  | succ n =>
    unfold DataW.trod at h
    rw [ht] at h
    split at h <;> simp_all
theorem trod_float_datum {k : FloatKind} {t : TypeId} {fuel : Nat} {b : Nat} {x : DataW H × List MemPlace} (ht : P.underlying t = some (.float k)) (h : DataW.trod enc P w base spare held fuel t [.float k b] = some x) : x.1 = .lit (.float k b) := by
  cases fuel with
  | zero => simp [DataW.trod] at h
  | succ n =>
    unfold DataW.trod at h
    rw [ht] at h
    by_cases hw : (Lit.float k b).wf = true
    · simp [hw] at h; rw [← h]
    · simp [hw] at h
theorem field_at {fs : Array Field} {n : Nat} {cs : List Value} {xs : List (DataW H × List MemPlace)} (hf : ∀ (i : Nat) (f : Field), fs[i]? = some f → DataW.trod enc P w base spare held n f.type ((cs.drop f.offset).take (P.cellsOf f.type)) = xs[i]?)
    (hone : oneCellFields P fs = true) (hl : cs.length = fs.size) (hlen : xs.length = fs.size) (i : Nat) (f : Field) (hi : fs[i]? = some f) : ∃ c y, cs[i]? = some c ∧ DataW.trod enc P w base spare held n f.type [c] = some y := by
  have hlt : i < fs.size := (Array.getElem?_eq_some_iff.1 hi).1
  obtain ⟨ho, h1⟩ := hone_of hone i f hi
  have h := hf i f hi
  rw [ho, h1] at h
  have hc : cs[i]? = some cs[i] := List.getElem?_eq_getElem (by omega)
  refine ⟨cs[i], xs[i], hc, ?_⟩
  rw [List.getElem?_eq_getElem (show i < xs.length by omega)] at h
  have e : (cs.drop i).take 1 = [cs[i]] := by rw [List.drop_eq_getElem_cons (show i < cs.length by omega)]; rfl
  rw [e] at h
  exact h
end
theorem list16 {α : Type} {l : List α} (hl : l.length = 16) {c0 c1 c2 c3 c4 c5 c6 c7 c8 c9 c10 c11 c12 c13 c14 c15 : α} (h0 : l[0]? = some c0) (h1 : l[1]? = some c1) (h2 : l[2]? = some c2) (h3 : l[3]? = some c3) (h4 : l[4]? = some c4) (h5 : l[5]? = some c5) (h6 : l[6]? = some c6) (h7 : l[7]? = some c7) (h8 : l[8]? = some c8) (h9 : l[9]? = some c9) (h10 : l[10]? = some c10) (h11 : l[11]? = some c11) (h12 : l[12]? = some c12) (h13 : l[13]? = some c13) (h14 : l[14]? = some c14) (h15 : l[15]? = some c15) : l = [c0, c1, c2, c3, c4, c5, c6, c7, c8, c9, c10, c11, c12, c13, c14, c15] := by
  match l, hl with
  | [x0, x1, x2, x3, x4, x5, x6, x7, x8, x9, x10, x11, x12, x13, x14, x15], _ => simp_all
theorem one24 : oneCellFields Ybad.prog #[{ name := "Type", type := 5, offset := 0, embedded := false, tag := "", pkgPath := "", byteOffset := 0 }, { name := "NDV", type := 22, offset := 1, embedded := false, tag := "", pkgPath := "", byteOffset := 8 }, { name := "HasNDV", type := 4, offset := 2, embedded := false, tag := "", pkgPath := "", byteOffset := 16 }, { name := "Null", type := 22, offset := 3, embedded := false, tag := "", pkgPath := "", byteOffset := 24 }, { name := "MinK", type := 5, offset := 4, embedded := false, tag := "", pkgPath := "", byteOffset := 32 }, { name := "MinN", type := 22, offset := 5, embedded := false, tag := "", pkgPath := "", byteOffset := 40 }, { name := "MinS", type := 9, offset := 6, embedded := false, tag := "", pkgPath := "", byteOffset := 48 }, { name := "MaxK", type := 5, offset := 7, embedded := false, tag := "", pkgPath := "", byteOffset := 64 }, { name := "MaxN", type := 22, offset := 8, embedded := false, tag := "", pkgPath := "", byteOffset := 72 }, { name := "MaxS", type := 9, offset := 9, embedded := false, tag := "", pkgPath := "", byteOffset := 80 }, { name := "TrueF", type := 22, offset := 10, embedded := false, tag := "", pkgPath := "", byteOffset := 96 }, { name := "HasTrue", type := 4, offset := 11, embedded := false, tag := "", pkgPath := "", byteOffset := 104 }, { name := "Domain", type := 22, offset := 12, embedded := false, tag := "", pkgPath := "", byteOffset := 112 }, { name := "DomainRows", type := 22, offset := 13, embedded := false, tag := "", pkgPath := "", byteOffset := 120 }, { name := "NMCV", type := 5, offset := 14, embedded := false, tag := "", pkgPath := "", byteOffset := 128 }, { name := "NHist", type := 5, offset := 15, embedded := false, tag := "", pkgPath := "", byteOffset := 129 }] = true := by kernel_rfl
theorem cells24 : Ybad.prog.cellsOf 24 = 16 := by kernel_rfl

set_option maxHeartbeats 1000000 in
/-- A side that came in. -/
theorem open_side {H : Type} {enc : TypeId × Value → H} {w : World} {b0 base : Nat} {spare : Nat → Bool} {held : Bool} {r : Reach} {v : Value} {d : DataW H} {ps : List MemPlace}
    (hv : Value.okWide Ybad.prog w r b0 24 v) (h : DataW.Trod enc Ybad.prog w base spare held 24 v d ps) : ∃ s : Side, v = .agg s.cells ∧ s.Ok := by
  obtain ⟨cs, rfl, hsz⟩ := okWide_struct Ybad.underlying24 hv
  obtain ⟨l⟩ := cs
  have hl16 : l.length = 16 := by rw [cells24] at hsz; simpa using hsz
  obtain ⟨fuel, hf⟩ := h
  obtain ⟨xs, n, _, hx, hl, hlen, hfi⟩ := DataW.trod_struct (cs := l) Ybad.underlying24 (by simpa [Value.cells] using hf)
  have hone : oneCellFields Ybad.prog _ = true := one24
  have hl' : l.length = _ := hl16
  clear hf hx hl hv hsz
  obtain ⟨c0, y0, q0, t0⟩ := field_at hfi hone hl' hlen 0 _ rfl
  obtain ⟨a0, e0, _, w0⟩ := DataW.trod_int Ybad.underlying5 t0
  simp only [List.cons.injEq, and_true] at e0; subst e0
  obtain ⟨c1, y1, q1, t1⟩ := field_at hfi hone hl' hlen 1 _ rfl
  obtain ⟨a1, e1⟩ := trod_float Ybad.underlying22 t1
  simp only [List.cons.injEq, and_true] at e1; subst e1
  obtain ⟨c2, y2, q2, t2⟩ := field_at hfi hone hl' hlen 2 _ rfl
  obtain ⟨a2, e2, _⟩ := DataW.trod_bool Ybad.underlying4 t2
  simp only [List.cons.injEq, and_true] at e2; subst e2
  obtain ⟨c3, y3, q3, t3⟩ := field_at hfi hone hl' hlen 3 _ rfl
  obtain ⟨a3, e3⟩ := trod_float Ybad.underlying22 t3
  simp only [List.cons.injEq, and_true] at e3; subst e3
  obtain ⟨c4, y4, q4, t4⟩ := field_at hfi hone hl' hlen 4 _ rfl
  obtain ⟨a4, e4, _, w4⟩ := DataW.trod_int Ybad.underlying5 t4
  simp only [List.cons.injEq, and_true] at e4; subst e4
  obtain ⟨c5, y5, q5, t5⟩ := field_at hfi hone hl' hlen 5 _ rfl
  obtain ⟨a5, e5⟩ := trod_float Ybad.underlying22 t5
  simp only [List.cons.injEq, and_true] at e5; subst e5
  obtain ⟨c6, y6, q6, t6⟩ := field_at hfi hone hl' hlen 6 _ rfl
  obtain ⟨a6, e6, _, _⟩ := DataW.trod_string Ybad.underlying9 t6
  simp only [List.cons.injEq, and_true] at e6; subst e6
  obtain ⟨c7, y7, q7, t7⟩ := field_at hfi hone hl' hlen 7 _ rfl
  obtain ⟨a7, e7, _, w7⟩ := DataW.trod_int Ybad.underlying5 t7
  simp only [List.cons.injEq, and_true] at e7; subst e7
  obtain ⟨c8, y8, q8, t8⟩ := field_at hfi hone hl' hlen 8 _ rfl
  obtain ⟨a8, e8⟩ := trod_float Ybad.underlying22 t8
  simp only [List.cons.injEq, and_true] at e8; subst e8
  obtain ⟨c9, y9, q9, t9⟩ := field_at hfi hone hl' hlen 9 _ rfl
  obtain ⟨a9, e9, _, _⟩ := DataW.trod_string Ybad.underlying9 t9
  simp only [List.cons.injEq, and_true] at e9; subst e9
  obtain ⟨c10, y10, q10, t10⟩ := field_at hfi hone hl' hlen 10 _ rfl
  obtain ⟨a10, e10⟩ := trod_float Ybad.underlying22 t10
  simp only [List.cons.injEq, and_true] at e10; subst e10
  obtain ⟨c11, y11, q11, t11⟩ := field_at hfi hone hl' hlen 11 _ rfl
  obtain ⟨a11, e11, _⟩ := DataW.trod_bool Ybad.underlying4 t11
  simp only [List.cons.injEq, and_true] at e11; subst e11
  obtain ⟨c12, y12, q12, t12⟩ := field_at hfi hone hl' hlen 12 _ rfl
  obtain ⟨a12, e12⟩ := trod_float Ybad.underlying22 t12
  simp only [List.cons.injEq, and_true] at e12; subst e12
  obtain ⟨c13, y13, q13, t13⟩ := field_at hfi hone hl' hlen 13 _ rfl
  obtain ⟨a13, e13⟩ := trod_float Ybad.underlying22 t13
  simp only [List.cons.injEq, and_true] at e13; subst e13
  obtain ⟨c14, y14, q14, t14⟩ := field_at hfi hone hl' hlen 14 _ rfl
  obtain ⟨a14, e14, _, w14⟩ := DataW.trod_int Ybad.underlying5 t14
  simp only [List.cons.injEq, and_true] at e14; subst e14
  obtain ⟨c15, y15, q15, t15⟩ := field_at hfi hone hl' hlen 15 _ rfl
  obtain ⟨a15, e15, _, w15⟩ := DataW.trod_int Ybad.underlying5 t15
  simp only [List.cons.injEq, and_true] at e15; subst e15
  obtain rfl := list16 hl16 q0 q1 q2 q3 q4 q5 q6 q7 q8 q9 q10 q11 q12 q13 q14 q15
  refine ⟨{ ty := a0, ndv := a1, has := a2, nul := a3, ik := a4, inn := a5, ist := a6, ak := a7, an := a8, ast := a9, tf := a10, ht := a11, dom := a12, rows := a13, nm := a14, nh := a15 }, rfl, ⟨?_, ?_, ?_, ?_, ?_, ?_⟩⟩
  · exact (bounds_u8 w0).1
  · exact (bounds_u8 w0).2
  · exact (bounds_u8 w4).1
  · exact (bounds_u8 w7).1
  · exact (bounds_u8 w14).1
  · exact (bounds_u8 w15).1
end Go.Proofs.YbulkbspoDoor
