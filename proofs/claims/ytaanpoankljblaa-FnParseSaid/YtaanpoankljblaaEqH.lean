/- Two headers of the same numbers are equal. -/
import Derived.Test.YtaanpoankljblaaProg
import Derived.WalkKit
import Derived.KernelRfl
import Derived.Laws.StructEq
namespace Go.Proofs.Ytaanpoankljblaa.EqH
open Go.RowKit
set_option linter.unusedVariables false
set_option linter.unusedSimpArgs false

section
variable {P : Program} {d : Nat} {xs ys : Array Value} {f : Field} {fs : List Field} {a b : Value} {W : World}
theorem fields_cons (hn : (f.name == "_") = false) (ha : (part f.type xs f.offset).run P W = .ok a W) (hb : (part f.type ys f.offset).run P W = .ok b W) (he : (Op.equalIn d f.type a b).run P W = .ok true W) (hr : (Op.eqFields d xs ys fs).run P W = .ok true W) :
    (Op.eqFields d xs ys (f :: fs)).run P W = .ok true W := by
  have hn' : f.name ≠ "_" := by simpa using hn
  rw [Op.eqFields]
  simp only [if_pos hn', Sem.run_bind, ha, hb, he, Result.andThen_ok]
  simpa using hr
theorem fields_nil : (Op.eqFields d xs ys []).run P W = .ok true W := by simp [Op.eqFields]
theorem agg_of {t : TypeId} {fs : Array Field} (hu : P.underlying t = some (.struct fs)) (hp : P.stoodInHeld t = false) (h : (Op.eqFields d xs ys fs.toList).run P W = .ok true W) : (Op.equalIn (d + 1) t (.agg xs) (.agg ys)).run P W = .ok true W := by
  have hf : P.fieldsOf t = fs := by simp [Program.fieldsOf, hu]
  rw [run_equalIn_struct (P := P) W d t xs ys (by rw [hf]; exact hu) hp, hf]
  exact h
theorem int_same {t : TypeId} {k : IntKind} (n : Int) (h : P.underlying t = some (.int k)) : (Op.equalIn (d + 1) t (.int k n) (.int k n)).run P W = .ok true W := by
  rw [run_equalIn_int W d t k k n n h]
  simp
end

theorem same_hdr (leap version mode stratum poll prec rd disp rid ref orig recv xmit : Int) (W : World) :
    (binOp .neq 37 (.agg #[.int .i64 leap, .int .i64 version, .int .i64 mode, .int .i64 stratum, .int .i64 poll, .int .i64 prec, .int .u32 rd, .int .u32 disp, .int .u32 rid, .int .u64 ref, .int .u64 orig, .int .u64 recv, .int .u64 xmit]) (.agg #[.int .i64 leap, .int .i64 version, .int .i64 mode, .int .i64 stratum, .int .i64 poll, .int .i64 prec, .int .u32 rd, .int .u32 disp, .int .u32 rid, .int .u64 ref, .int .u64 orig, .int .u64 recv, .int .u64 xmit])).run Try.prog W = .ok (.bool false) W := by
  have h : (Op.equalIn (9999 + 1) 37 (.agg #[.int .i64 leap, .int .i64 version, .int .i64 mode, .int .i64 stratum, .int .i64 poll, .int .i64 prec, .int .u32 rd, .int .u32 disp, .int .u32 rid, .int .u64 ref, .int .u64 orig, .int .u64 recv, .int .u64 xmit]) (.agg #[.int .i64 leap, .int .i64 version, .int .i64 mode, .int .i64 stratum, .int .i64 poll, .int .i64 prec, .int .u32 rd, .int .u32 disp, .int .u32 rid, .int .u64 ref, .int .u64 orig, .int .u64 recv, .int .u64 xmit])).run Try.prog W = .ok true W := by
    refine agg_of Try.underlying37 (by kernel_rfl) ?_
    refine fields_cons (a := .int .i64 leap) (b := .int .i64 leap) (by kernel_rfl) (by kernel_rfl) (by kernel_rfl) (int_same (d := 9998) leap Try.underlying3) ?_
    refine fields_cons (a := .int .i64 version) (b := .int .i64 version) (by kernel_rfl) (by kernel_rfl) (by kernel_rfl) (int_same (d := 9998) version Try.underlying3) ?_
    refine fields_cons (a := .int .i64 mode) (b := .int .i64 mode) (by kernel_rfl) (by kernel_rfl) (by kernel_rfl) (int_same (d := 9998) mode Try.underlying3) ?_
    refine fields_cons (a := .int .i64 stratum) (b := .int .i64 stratum) (by kernel_rfl) (by kernel_rfl) (by kernel_rfl) (int_same (d := 9998) stratum Try.underlying3) ?_
    refine fields_cons (a := .int .i64 poll) (b := .int .i64 poll) (by kernel_rfl) (by kernel_rfl) (by kernel_rfl) (int_same (d := 9998) poll Try.underlying3) ?_
    refine fields_cons (a := .int .i64 prec) (b := .int .i64 prec) (by kernel_rfl) (by kernel_rfl) (by kernel_rfl) (int_same (d := 9998) prec Try.underlying3) ?_
    refine fields_cons (a := .int .u32 rd) (b := .int .u32 rd) (by kernel_rfl) (by kernel_rfl) (by kernel_rfl) (int_same (d := 9998) rd Try.underlying22) ?_
    refine fields_cons (a := .int .u32 disp) (b := .int .u32 disp) (by kernel_rfl) (by kernel_rfl) (by kernel_rfl) (int_same (d := 9998) disp Try.underlying22) ?_
    refine fields_cons (a := .int .u32 rid) (b := .int .u32 rid) (by kernel_rfl) (by kernel_rfl) (by kernel_rfl) (int_same (d := 9998) rid Try.underlying22) ?_
    refine fields_cons (a := .int .u64 ref) (b := .int .u64 ref) (by kernel_rfl) (by kernel_rfl) (by kernel_rfl) (int_same (d := 9998) ref Try.underlying26) ?_
    refine fields_cons (a := .int .u64 orig) (b := .int .u64 orig) (by kernel_rfl) (by kernel_rfl) (by kernel_rfl) (int_same (d := 9998) orig Try.underlying26) ?_
    refine fields_cons (a := .int .u64 recv) (b := .int .u64 recv) (by kernel_rfl) (by kernel_rfl) (by kernel_rfl) (int_same (d := 9998) recv Try.underlying26) ?_
    refine fields_cons (a := .int .u64 xmit) (b := .int .u64 xmit) (by kernel_rfl) (by kernel_rfl) (by kernel_rfl) (int_same (d := 9998) xmit Try.underlying26) ?_
    exact fields_nil
  rw [run_neq_struct]
  rw [show (10000 : Nat) = 9999 + 1 from rfl, h]
  rfl
end Go.Proofs.Ytaanpoankljblaa.EqH
