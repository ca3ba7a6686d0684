/- spec.Proper and laws.header. -/
import Derived.Test.YtaanpoankljblaaHigh
import Derived.BigQuiet
namespace Go.Proofs.Ytaanpoankljblaa.Proper
open Go.RowKit
set_option linter.unusedVariables false
set_option linter.unusedSimpArgs false

def properB (leap version mode stratum poll prec : Int) : Bool :=
  decide ((0 ≤ leap ∧ leap ≤ 3) ∧ (version = 3 ∨ version = 4) ∧ (0 ≤ mode ∧ mode ≤ 7) ∧ (0 ≤ stratum ∧ stratum ≤ 255) ∧ (-128 ≤ poll ∧ poll ≤ 127) ∧ (-128 ≤ prec ∧ prec ≤ 127))

set_option maxHeartbeats 1600000 in
set_option maxRecDepth 100000 in
theorem proper_any (leap version mode stratum poll prec rd disp rid ref orig recv xmit : Int) (w : World) :
    Calls Try.prog 21 #[.agg #[.int .i64 leap, .int .i64 version, .int .i64 mode, .int .i64 stratum, .int .i64 poll, .int .i64 prec, .int .u32 rd, .int .u32 disp, .int .u32 rid, .int .u64 ref, .int .u64 orig, .int .u64 recv, .int .u64 xmit]] w
      fun e w' => e = .returned (.bool (properB leap version mode stratum poll prec)) ∧ Below w.heap.size w w' := by
  go_enter Try.func21, Try.ntmps21
  go_wp2
  all_goals
    go_ret
    refine ⟨congrArg (fun b => Ending.returned (.bool b)) (Eq.symm ?_), by repeat (first | exact Below.refl _ _ | apply Below.drew | (refine Below.alloc ?_ (by simp) _))⟩
    unfold properB
    first
    | exact decide_eq_false (by omega)
    | exact decide_eq_decide.2 (by omega)

set_option maxHeartbeats 400000 in
set_option maxRecDepth 100000 in
theorem header_any (leap version mode stratum poll prec rd disp rid ref orig recv xmit : Int) (w : World) :
    Calls Try.prog 20 #[.agg #[.int .i64 leap, .int .i64 version, .int .i64 mode, .int .i64 stratum, .int .i64 poll, .int .i64 prec, .int .u32 rd, .int .u32 disp, .int .u32 rid, .int .u64 ref, .int .u64 orig, .int .u64 recv, .int .u64 xmit]] w
      fun e w' => e = .returned (.agg #[.int .i64 leap, .int .i64 version, .int .i64 mode, .int .i64 stratum, .int .i64 poll, .int .i64 prec, .int .u32 rd, .int .u32 disp, .int .u32 rid, .int .u64 ref, .int .u64 orig, .int .u64 recv, .int .u64 xmit]) ∧ Below w.heap.size w w' := by
  go_enter Try.func20, Try.ntmps20
  go_wp2
  refine bodyPost_ret (v := .agg #[.int .i64 leap, .int .i64 version, .int .i64 mode, .int .i64 stratum, .int .i64 poll, .int .i64 prec, .int .u32 rd, .int .u32 disp, .int .u32 rid, .int .u64 ref, .int .u64 orig, .int .u64 recv, .int .u64 xmit]) (by simp [results, Try.results20, go_sem]) rfl ⟨rfl, by repeat (first | exact Below.refl _ _ | apply Below.drew | (refine Below.alloc ?_ (by simp) _) | (refine Below.setCell ?_ (by simp) _))⟩

end Go.Proofs.Ytaanpoankljblaa.Proper
