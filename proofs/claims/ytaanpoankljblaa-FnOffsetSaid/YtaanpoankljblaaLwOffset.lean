/- FnOffset returns true for all four times. No condition. -/
import Derived.Test.YtaanpoankljblaaRows
import Derived.Test.YtaanpoankljblaaTmL
import Derived.WalkKit
import Derived.ProofKit
import Derived.OpenShut
import Derived.ShutString
import Derived.ChangeOld
import Derived.Below
import Derived.SizedLaws
import Derived.Test.YtaanpoankljblaaTmArg
namespace Go.Proofs.Ytaanpoankljblaa.fnOffset
open Go.ChangeShapes Go.WideShapes Go.ChangeAt Go.RowKit
set_option linter.unusedVariables false
theorem own : ownKnob Try.prog.godebug = none := by kernel_rfl
theorem bounds64 {n : Int} (h : (Lit.int .u64 n).wf = true) : 0 ≤ n ∧ n < 18446744073709551616 := by
  have h0 := of_decide_eq_true ((Bool.and_eq_true _ _).mp h).1
  have h1 := of_decide_eq_true ((Bool.and_eq_true _ _).mp h).2
  exact ⟨h0, Int.lt_of_le_sub_one h1⟩
theorem boundsI {n : Int} (h : (Lit.int .i64 n).wf = true) : -9223372036854775808 ≤ n ∧ n < 9223372036854775808 := by
  have h0 := of_decide_eq_true ((Bool.and_eq_true _ _).mp h).1
  have h1 := of_decide_eq_true ((Bool.and_eq_true _ _).mp h).2
  exact ⟨h0, Int.lt_of_le_sub_one h1⟩

theorem walk (s1 n1 : Int) (w10 : (Lit.int .i64 s1).wf = true) (w11 : (Lit.int .i64 n1).wf = true) (s2 n2 : Int) (w20 : (Lit.int .i64 s2).wf = true) (w21 : (Lit.int .i64 n2).wf = true) (s3 n3 : Int) (w30 : (Lit.int .i64 s3).wf = true) (w31 : (Lit.int .i64 n3).wf = true) (s4 n4 : Int) (w40 : (Lit.int .i64 s4).wf = true) (w41 : (Lit.int .i64 n4).wf = true) (w : World) :
    Calls Try.prog 7 #[.agg #[.int .i64 s1, .int .i64 n1], .agg #[.int .i64 s2, .int .i64 n2], .agg #[.int .i64 s3, .int .i64 n3], .agg #[.int .i64 s4, .int .i64 n4]] w fun e w' => e = .returned (.bool true) ∧ Below w.heap.size w w' :=
  TmL.law s1 n1 s2 n2 s3 n3 s4 n4 w

set_option maxRecDepth 100000 in
theorem lifted (os : Os) (started : os.Started) (H : Type) (enc : TypeId × Value → H) :
    ReturnsInHanded {} Try.checked os 7 .any (Rows.fnOffsetSpec.pre6 enc Try.prog Try.f7 Rows.fnOffsetRow.domain false) (Rows.fnOffsetSpec.post enc Try.prog Try.f7 false true false false) := by
  refine returnsInHanded_of_change_sized (C := Try.checked) own started (by kernel_rfl) Try.func7
    (ChangeSpec.witness6 (enc := enc) (C := Try.checked) false ⟨#[], #[.agg #[.int .i64 0, .int .i64 0], .agg #[.int .i64 0, .int .i64 0], .agg #[.int .i64 0, .int .i64 0], .agg #[.int .i64 0, .int .i64 0]], []⟩ 8 (by kernel_rfl) (by kernel_rfl) (by kernel_rfl) (by kernel_rfl)) ?_
  intro W base args ds gs before hval0 hW hcnd hsz0 _
  have hval : ∀ (j : Nat) t v, Try.f7.params[j]? = some t → args[j]? = some v → Value.okWide Try.prog W .any base t v := hval0
  have hW' := hW
  obtain ⟨p, q, hA0, hV, rfl, hfz, hnd⟩ := hW
  have hA : DataW.TrodAll enc Try.prog W 0 (fun _ => true) true Try.f7.params.toList args.toList ds p := hA0
  rw [Try.params7] at hA hval
  obtain ⟨v0, vs0, d0, ds0, p0, q0, hargs, rfl, rfl, h0, r0⟩ := trodAll_cons hA
  obtain ⟨v1, vs1, d1, ds1, p1, q1, rfl, rfl, rfl, h1, r1⟩ := trodAll_cons r0
  obtain ⟨v2, vs2, d2, ds2, p2, q2, rfl, rfl, rfl, h2, r2⟩ := trodAll_cons r1
  obtain ⟨v3, vs3, d3, ds3, p3, q3, rfl, rfl, rfl, h3, r3⟩ := trodAll_cons r2
  obtain ⟨rfl, rfl, rfl⟩ := trodAll_nil r3
  obtain rfl : args = #[v0, v1, v2, v3] := by cases args; simp_all
  obtain ⟨rfl, rfl⟩ := trodVars_none hV
  obtain ⟨a0, b0, rfl, rfl, rfl, wa0, wb0⟩ := TmArg.open_tm (hval 0 49 v0 rfl rfl) h0
  obtain ⟨a1, b1, rfl, rfl, rfl, wa1, wb1⟩ := TmArg.open_tm (hval 1 49 v1 rfl rfl) h1
  obtain ⟨a2, b2, rfl, rfl, rfl, wa2, wb2⟩ := TmArg.open_tm (hval 2 49 v2 rfl rfl) h2
  obtain ⟨a3, b3, rfl, rfl, rfl, wa3, wb3⟩ := TmArg.open_tm (hval 3 49 v3 rfl rfl) h3
  clear hA0 hval0 hsz0
  refine (walk a0 b0 wa0 wb0 a1 b1 wa1 wb1 a2 b2 wa2 wb2 a3 b3 wa3 wb3 W).mono fun e W' ⟨he, bel⟩ => ?_
  subst he
  exact ⟨_, rfl, _, _, _, [], _, [], hW', trodAll_mk1 (shut_bool Try.underlying4 _), (trodAll_cons_mk (TmArg.shut_tm wa0 wb0) (trodAll_cons_mk (TmArg.shut_tm wa1 wb1) (trodAll_cons_mk (TmArg.shut_tm wa2 wb2) (trodAll_cons_mk (TmArg.shut_tm wa3 wb3) trodAll_mk0)))), rfl, bel.frame _, fun h => by cases h⟩
theorem over : Rows.fnOffsetRow.holds Try.pinned (OpenSpec.ofChange Rows.fnOffsetSpec) :=
  OpenClaim.holds_of_wide 7 Try.f7 rfl rfl rfl rfl rfl rfl rfl ⟨rfl, rfl, rfl, rfl, rfl⟩ rfl rfl rfl rfl rfl (by kernel_rfl) Try.func7 (by kernel_rfl)
    (of_decide_eq_true (by kernel_rfl)) (by unfold Func.isWrapper; first | (rw [if_pos (by decide +kernel)]; kernel_rfl) | (rw [if_neg (by decide +kernel)]; exact ⟨rfl, rfl⟩))
    (fun os started H enc _ => lifted os started H enc)
theorem proved : Rows.FnOffsetSaid := over
#print axioms proved
end Go.Proofs.Ytaanpoankljblaa.fnOffset
namespace Go.Proofs.Ytaanpoankljblaa
/-- The row, under a short name, for the claim. -/
theorem fnOffset_holds : Rows.FnOffsetSaid := fnOffset.proved
end Go.Proofs.Ytaanpoankljblaa
