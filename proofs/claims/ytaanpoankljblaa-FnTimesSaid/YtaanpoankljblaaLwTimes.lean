/- FnTimes returns true for every time. No condition. -/
import Derived.Test.YtaanpoankljblaaRows
import Derived.Test.YtaanpoankljblaaTmK
import Derived.WalkKit
import Derived.ProofKit
import Derived.OpenShut
import Derived.ShutString
import Derived.ChangeOld
import Derived.Below
import Derived.SizedLaws
import Derived.Test.YtaanpoankljblaaTmArg
namespace Go.Proofs.Ytaanpoankljblaa.fnTimes
open Go.ChangeShapes Go.WideShapes Go.ChangeAt Go.RowKit
set_option linter.unusedVariables false
theorem own : ownKnob Try.prog.godebug = none := by kernel_rfl
theorem bounds64 {n : Int} (h : (Lit.int .u64 n).wf = true) : 0 ≤ n ∧ n < 18446744073709551616 := by
  have h0 := of_decide_eq_true ((Bool.and_eq_true _ _).mp h).1
  have h1 := of_decide_eq_true ((Bool.and_eq_true _ _).mp h).2
  exact ⟨h0, Int.lt_of_le_sub_one h1⟩
theorem boundsI {n : Int} (h : (Lit.int .i64 n).wf = true) : -9223372036854775808 ≤ n ∧ n < 9223372036854775808 := by
  have h0 := of_decide_eq_true ((Bool.and_eq_true _ _).mp h).1
  have h1 := of_decide_eq_true ((Bool.and_eq_true _ _).mp h).2
  exact ⟨h0, Int.lt_of_le_sub_one h1⟩

theorem walk (s n : Int) (w0 : (Lit.int .i64 s).wf = true) (w1 : (Lit.int .i64 n).wf = true) (w : World) :
    Calls Try.prog 10 #[.agg #[.int .i64 s, .int .i64 n]] w fun e w' => e = .returned (.bool true) ∧ Below w.heap.size w w' := by
  by_cases h : TmJ.RightB s n
  · by_cases h0 : s < 2085978496
    · exact TmK.law_0 s n w h h.2.2.1 h0
    · exact TmK.law_1 s n w h (by omega) (by have := h.2.2.2; omega)
  · exact TmK.law_no s n w h

set_option maxRecDepth 100000 in
theorem lifted (os : Os) (started : os.Started) (H : Type) (enc : TypeId × Value → H) :
    ReturnsInHanded {} Try.checked os 10 .any (Rows.fnTimesSpec.pre6 enc Try.prog Try.f10 Rows.fnTimesRow.domain false) (Rows.fnTimesSpec.post enc Try.prog Try.f10 false true false false) := by
  refine returnsInHanded_of_change_sized (C := Try.checked) own started (by kernel_rfl) Try.func10
    (ChangeSpec.witness6 (enc := enc) (C := Try.checked) false ⟨#[], #[.agg #[.int .i64 0, .int .i64 0]], []⟩ 8 (by kernel_rfl) (by kernel_rfl) (by kernel_rfl) (by kernel_rfl)) ?_
  intro W base args ds gs before hval0 hW hcnd hsz0 _
  have hval : ∀ (j : Nat) t v, Try.f10.params[j]? = some t → args[j]? = some v → Value.okWide Try.prog W .any base t v := hval0
  have hW' := hW
  obtain ⟨p, q, hA0, hV, rfl, hfz, hnd⟩ := hW
  have hA : DataW.TrodAll enc Try.prog W 0 (fun _ => true) true Try.f10.params.toList args.toList ds p := hA0
  rw [Try.params10] at hA hval
  obtain ⟨v0, vs0, d0, ds0, p0, q0, hargs, rfl, rfl, h0, r0⟩ := trodAll_cons hA
  obtain ⟨rfl, rfl, rfl⟩ := trodAll_nil r0
  obtain rfl : args = #[v0] := by cases args; simp_all
  obtain ⟨rfl, rfl⟩ := trodVars_none hV
  obtain ⟨a0, b0, rfl, rfl, rfl, wa0, wb0⟩ := TmArg.open_tm (hval 0 49 v0 rfl rfl) h0
  clear hA0 hval0 hsz0
  refine (walk a0 b0 wa0 wb0 W).mono fun e W' ⟨he, bel⟩ => ?_
  subst he
  exact ⟨_, rfl, _, _, _, [], _, [], hW', trodAll_mk1 (shut_bool Try.underlying4 _), (trodAll_cons_mk (TmArg.shut_tm wa0 wb0) trodAll_mk0), rfl, bel.frame _, fun h => by cases h⟩
theorem over : Rows.fnTimesRow.holds Try.pinned (OpenSpec.ofChange Rows.fnTimesSpec) :=
  OpenClaim.holds_of_wide 10 Try.f10 rfl rfl rfl rfl rfl rfl rfl ⟨rfl, rfl, rfl, rfl, rfl⟩ rfl rfl rfl rfl rfl (by kernel_rfl) Try.func10 (by kernel_rfl)
    (of_decide_eq_true (by kernel_rfl)) (by unfold Func.isWrapper; first | (rw [if_pos (by decide +kernel)]; kernel_rfl) | (rw [if_neg (by decide +kernel)]; exact ⟨rfl, rfl⟩))
    (fun os started H enc _ => lifted os started H enc)
theorem proved : Rows.FnTimesSaid := over
#print axioms proved
end Go.Proofs.Ytaanpoankljblaa.fnTimes
namespace Go.Proofs.Ytaanpoankljblaa
/-- The row, under a short name, for the claim. -/
theorem fnTimes_holds : Rows.FnTimesSaid := fnTimes.proved
end Go.Proofs.Ytaanpoankljblaa
