/- A header among a law's arguments: read as data, and back. -/
import Derived.Test.YtaanpoankljblaaProg
import Derived.WalkKit
import Derived.ProofKit
import Derived.Lib.SmallJoins
namespace Go.Proofs.Ytaanpoankljblaa.HdrArg
open Go.ChangeShapes Go.WideShapes Go.RowKit Go.Joins Go.Deep
set_option linter.unusedVariables false
variable {H : Type} {enc : TypeId × Value → H} {w : World} {base : Nat} {spare : Nat → Bool} {held : Bool}

theorem array13 {α : Type} {cs : Array α} (h : cs.size = 13) : ∃ c0 c1 c2 c3 c4 c5 c6 c7 c8 c9 c10 c11 c12, cs = #[c0, c1, c2, c3, c4, c5, c6, c7, c8, c9, c10, c11, c12] := by
  obtain ⟨l⟩ := cs
  match l, h with
  | [c0, c1, c2, c3, c4, c5, c6, c7, c8, c9, c10, c11, c12], _ => exact ⟨c0, c1, c2, c3, c4, c5, c6, c7, c8, c9, c10, c11, c12, rfl⟩

theorem cells36 : Try.prog.cellsOf 36 = 13 := by kernel_rfl
theorem cells3 : Try.prog.cellsOf 3 = 1 := by kernel_rfl
theorem cells22 : Try.prog.cellsOf 22 = 1 := by kernel_rfl
theorem cells26 : Try.prog.cellsOf 26 = 1 := by kernel_rfl

set_option maxRecDepth 100000 in
theorem open_hdr {r : Reach} {b0 : Nat} {v : Value} {d : DataW H} {p : List MemPlace} (hv : Value.okWide Try.prog w r b0 36 v) (h : DataW.Trod enc Try.prog w base spare held 36 v d p) :
    ∃ leap version mode stratum poll prec rd disp rid ref orig recv xmit : Int, v = .agg #[.int .i64 leap, .int .i64 version, .int .i64 mode, .int .i64 stratum, .int .i64 poll, .int .i64 prec, .int .u32 rd, .int .u32 disp, .int .u32 rid, .int .u64 ref, .int .u64 orig, .int .u64 recv, .int .u64 xmit] ∧ d = .agg [.lit (.int .i64 leap), .lit (.int .i64 version), .lit (.int .i64 mode), .lit (.int .i64 stratum), .lit (.int .i64 poll), .lit (.int .i64 prec), .lit (.int .u32 rd), .lit (.int .u32 disp), .lit (.int .u32 rid), .lit (.int .u64 ref), .lit (.int .u64 orig), .lit (.int .u64 recv), .lit (.int .u64 xmit)] ∧ p = [] ∧ (Lit.int .i64 leap).wf = true ∧ (Lit.int .i64 version).wf = true ∧ (Lit.int .i64 mode).wf = true ∧ (Lit.int .i64 stratum).wf = true ∧ (Lit.int .i64 poll).wf = true ∧ (Lit.int .i64 prec).wf = true ∧ (Lit.int .u32 rd).wf = true ∧ (Lit.int .u32 disp).wf = true ∧ (Lit.int .u32 rid).wf = true ∧ (Lit.int .u64 ref).wf = true ∧ (Lit.int .u64 orig).wf = true ∧ (Lit.int .u64 recv).wf = true ∧ (Lit.int .u64 xmit).wf = true := by
  obtain ⟨cs, rfl, hsz⟩ := okWide_struct Try.underlying36 hv
  obtain ⟨c0, c1, c2, c3, c4, c5, c6, c7, c8, c9, c10, c11, c12, rfl⟩ := array13 (hsz.trans cells36)
  obtain ⟨fuel, hf⟩ := h
  obtain ⟨xs, n, _, hx, hl, hlen, hg⟩ := DataW.trod_struct Try.underlying36 hf
  match xs, hlen with
  | [y0, y1, y2, y3, y4, y5, y6, y7, y8, y9, y10, y11, y12], _ =>
    have g0 := hg 0 _ rfl
    simp [Value.cells, cells3] at g0
    obtain ⟨leap, e0, f0, w0⟩ := DataW.trod_int Try.underlying3 g0
    simp only [List.cons.injEq, and_true] at e0
    subst e0 f0
    have g1 := hg 1 _ rfl
    simp [Value.cells, cells3] at g1
    obtain ⟨version, e1, f1, w1⟩ := DataW.trod_int Try.underlying3 g1
    simp only [List.cons.injEq, and_true] at e1
    subst e1 f1
    have g2 := hg 2 _ rfl
    simp [Value.cells, cells3] at g2
    obtain ⟨mode, e2, f2, w2⟩ := DataW.trod_int Try.underlying3 g2
    simp only [List.cons.injEq, and_true] at e2
    subst e2 f2
    have g3 := hg 3 _ rfl
    simp [Value.cells, cells3] at g3
    obtain ⟨stratum, e3, f3, w3⟩ := DataW.trod_int Try.underlying3 g3
    simp only [List.cons.injEq, and_true] at e3
    subst e3 f3
    have g4 := hg 4 _ rfl
    simp [Value.cells, cells3] at g4
    obtain ⟨poll, e4, f4, w4⟩ := DataW.trod_int Try.underlying3 g4
    simp only [List.cons.injEq, and_true] at e4
    subst e4 f4
    have g5 := hg 5 _ rfl
    simp [Value.cells, cells3] at g5
    obtain ⟨prec, e5, f5, w5⟩ := DataW.trod_int Try.underlying3 g5
    simp only [List.cons.injEq, and_true] at e5
    subst e5 f5
    have g6 := hg 6 _ rfl
    simp [Value.cells, cells22] at g6
    obtain ⟨rd, e6, f6, w6⟩ := DataW.trod_int Try.underlying22 g6
    simp only [List.cons.injEq, and_true] at e6
    subst e6 f6
    have g7 := hg 7 _ rfl
    simp [Value.cells, cells22] at g7
    obtain ⟨disp, e7, f7, w7⟩ := DataW.trod_int Try.underlying22 g7
    simp only [List.cons.injEq, and_true] at e7
    subst e7 f7
    have g8 := hg 8 _ rfl
    simp [Value.cells, cells22] at g8
    obtain ⟨rid, e8, f8, w8⟩ := DataW.trod_int Try.underlying22 g8
    simp only [List.cons.injEq, and_true] at e8
    subst e8 f8
    have g9 := hg 9 _ rfl
    simp [Value.cells, cells26] at g9
    obtain ⟨ref, e9, f9, w9⟩ := DataW.trod_int Try.underlying26 g9
    simp only [List.cons.injEq, and_true] at e9
    subst e9 f9
    have g10 := hg 10 _ rfl
    simp [Value.cells, cells26] at g10
    obtain ⟨orig, e10, f10, w10⟩ := DataW.trod_int Try.underlying26 g10
    simp only [List.cons.injEq, and_true] at e10
    subst e10 f10
    have g11 := hg 11 _ rfl
    simp [Value.cells, cells26] at g11
    obtain ⟨recv, e11, f11, w11⟩ := DataW.trod_int Try.underlying26 g11
    simp only [List.cons.injEq, and_true] at e11
    subst e11 f11
    have g12 := hg 12 _ rfl
    simp [Value.cells, cells26] at g12
    obtain ⟨xmit, e12, f12, w12⟩ := DataW.trod_int Try.underlying26 g12
    simp only [List.cons.injEq, and_true] at e12
    subst e12 f12
    simp only [Prod.mk.injEq] at hx
    exact ⟨leap, version, mode, stratum, poll, prec, rd, disp, rid, ref, orig, recv, xmit, rfl, hx.1, by simpa using hx.2, w0, w1, w2, w3, w4, w5, w6, w7, w8, w9, w10, w11, w12⟩

theorem shut_hdr {leap version mode stratum poll prec rd disp rid ref orig recv xmit : Int} (w0 : (Lit.int .i64 leap).wf = true) (w1 : (Lit.int .i64 version).wf = true) (w2 : (Lit.int .i64 mode).wf = true) (w3 : (Lit.int .i64 stratum).wf = true) (w4 : (Lit.int .i64 poll).wf = true) (w5 : (Lit.int .i64 prec).wf = true) (w6 : (Lit.int .u32 rd).wf = true) (w7 : (Lit.int .u32 disp).wf = true) (w8 : (Lit.int .u32 rid).wf = true) (w9 : (Lit.int .u64 ref).wf = true) (w10 : (Lit.int .u64 orig).wf = true) (w11 : (Lit.int .u64 recv).wf = true) (w12 : (Lit.int .u64 xmit).wf = true) :
    DataW.Trod enc Try.prog w base spare held 36 (.agg #[.int .i64 leap, .int .i64 version, .int .i64 mode, .int .i64 stratum, .int .i64 poll, .int .i64 prec, .int .u32 rd, .int .u32 disp, .int .u32 rid, .int .u64 ref, .int .u64 orig, .int .u64 recv, .int .u64 xmit]) (.agg [.lit (.int .i64 leap), .lit (.int .i64 version), .lit (.int .i64 mode), .lit (.int .i64 stratum), .lit (.int .i64 poll), .lit (.int .i64 prec), .lit (.int .u32 rd), .lit (.int .u32 disp), .lit (.int .u32 rid), .lit (.int .u64 ref), .lit (.int .u64 orig), .lit (.int .u64 recv), .lit (.int .u64 xmit)]) [] := by
  have := trod_struct_mk (enc := enc) (w := w) (base := base) (spare := spare) (held := held) (n := 1) (cs := [.int .i64 leap, .int .i64 version, .int .i64 mode, .int .i64 stratum, .int .i64 poll, .int .i64 prec, .int .u32 rd, .int .u32 disp, .int .u32 rid, .int .u64 ref, .int .u64 orig, .int .u64 recv, .int .u64 xmit]) (xs := [(.lit (.int .i64 leap), []), (.lit (.int .i64 version), []), (.lit (.int .i64 mode), []), (.lit (.int .i64 stratum), []), (.lit (.int .i64 poll), []), (.lit (.int .i64 prec), []), (.lit (.int .u32 rd), []), (.lit (.int .u32 disp), []), (.lit (.int .u32 rid), []), (.lit (.int .u64 ref), []), (.lit (.int .u64 orig), []), (.lit (.int .u64 recv), []), (.lit (.int .u64 xmit), [])]) Try.underlying36 (by simp [cells36])
    (by simp [DataW.trod, cells3, cells22, cells26, Try.underlying3, Try.underlying22, Try.underlying26, w0, w1, w2, w3, w4, w5, w6, w7, w8, w9, w10, w11, w12])
  exact ⟨2, by simpa [Value.cells] using this⟩

end Go.Proofs.Ytaanpoankljblaa.HdrArg
