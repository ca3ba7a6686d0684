/- A time among a law's arguments: read as data, and back. -/
import Derived.Test.YtaanpoankljblaaProg
import Derived.WalkKit
import Derived.ProofKit
import Derived.Lib.SmallJoins
namespace Go.Proofs.Ytaanpoankljblaa.TmArg
open Go.ChangeShapes Go.WideShapes Go.RowKit Go.Joins Go.Deep
set_option linter.unusedVariables false
variable {H : Type} {enc : TypeId × Value → H} {w : World} {base : Nat} {spare : Nat → Bool} {held : Bool}

theorem cells49 : Try.prog.cellsOf 49 = 2 := by kernel_rfl

set_option maxRecDepth 100000 in
theorem open_tm {r : Reach} {b0 : Nat} {v : Value} {d : DataW H} {p : List MemPlace} (hv : Value.okWide Try.prog w r b0 49 v) (h : DataW.Trod enc Try.prog w base spare held 49 v d p) :
    ∃ a b : Int, v = .agg #[.int .i64 a, .int .i64 b] ∧ d = .agg [.lit (.int .i64 a), .lit (.int .i64 b)] ∧ p = [] ∧ (Lit.int .i64 a).wf = true ∧ (Lit.int .i64 b).wf = true := by
  obtain ⟨v0, v1, y0, y1, n, rfl, rfl, rfl, g0, g1⟩ := open_agg2 Try.underlying49 (by kernel_rfl) cells49 hv h
  obtain ⟨a, e0, f0, w0⟩ := DataW.trod_int Try.underlying2 g0
  simp only [List.cons.injEq, and_true] at e0
  subst e0 f0
  obtain ⟨b, e1, f1, w1⟩ := DataW.trod_int Try.underlying3 g1
  simp only [List.cons.injEq, and_true] at e1
  subst e1 f1
  exact ⟨a, b, rfl, rfl, rfl, w0, w1⟩

set_option maxRecDepth 100000 in
theorem shut_tm {a b : Int} (w0 : (Lit.int .i64 a).wf = true) (w1 : (Lit.int .i64 b).wf = true) :
    DataW.Trod enc Try.prog w base spare held 49 (.agg #[.int .i64 a, .int .i64 b]) (.agg [.lit (.int .i64 a), .lit (.int .i64 b)]) [] :=
  shut_agg2 (y0 := (.lit (.int .i64 a), [])) (y1 := (.lit (.int .i64 b), [])) Try.underlying49 (by kernel_rfl) cells49 ⟨1, by simp [DataW.trod, Try.underlying2, w0]⟩ ⟨1, by simp [DataW.trod, Try.underlying3, w1]⟩

end Go.Proofs.Ytaanpoankljblaa.TmArg
