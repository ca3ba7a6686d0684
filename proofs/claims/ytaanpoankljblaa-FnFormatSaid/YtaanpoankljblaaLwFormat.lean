/- FnFormat returns true for every header: where its numbers are of their sizes, Format gives the 48 bytes that the reference gives. No condition. -/
import Derived.Test.YtaanpoankljblaaRows
import Derived.Test.YtaanpoankljblaaFmtD
import Derived.Test.YtaanpoankljblaaHdrArg
import Derived.WalkKit
import Derived.ProofKit
import Derived.OpenShut
import Derived.ShutString
import Derived.ChangeOld
import Derived.Below
import Derived.SizedLaws
namespace Go.Proofs.Ytaanpoankljblaa.fnFormat
open Go.ChangeShapes Go.WideShapes Go.ChangeAt Go.RowKit
set_option linter.unusedVariables false
theorem own : ownKnob Try.prog.godebug = none := by kernel_rfl
theorem bounds32 {n : Int} (h : (Lit.int .u32 n).wf = true) : 0 ≤ n ∧ n < 4294967296 := by
  have h0 := of_decide_eq_true ((Bool.and_eq_true _ _).mp h).1
  have h1 := of_decide_eq_true ((Bool.and_eq_true _ _).mp h).2
  exact ⟨h0, Int.lt_of_le_sub_one h1⟩

theorem walk (leap version mode stratum poll prec rd disp rid ref orig recv xmit : Int) (w6 : (Lit.int .u32 rd).wf = true) (w7 : (Lit.int .u32 disp).wf = true) (w8 : (Lit.int .u32 rid).wf = true) (w : World) :
    Calls Try.prog 5 #[.agg #[.int .i64 leap, .int .i64 version, .int .i64 mode, .int .i64 stratum, .int .i64 poll, .int .i64 prec, .int .u32 rd, .int .u32 disp, .int .u32 rid, .int .u64 ref, .int .u64 orig, .int .u64 recv, .int .u64 xmit]] w
      fun e w' => e = .returned (.bool true) ∧ Below w.heap.size w w' := by
  cases hp : Proper.properB leap version mode stratum poll prec with
  | true => exact FmtD.law_yes leap version mode stratum poll prec rd disp rid ref orig recv xmit w hp (bounds32 w6).1 (bounds32 w6).2 (bounds32 w7).1 (bounds32 w7).2 (bounds32 w8).1 (bounds32 w8).2
  | false => exact FmtD.law_no leap version mode stratum poll prec rd disp rid ref orig recv xmit w hp

set_option maxRecDepth 100000 in
theorem lifted (os : Os) (started : os.Started) (H : Type) (enc : TypeId × Value → H) :
    ReturnsInHanded {} Try.checked os 5 .any (Rows.fnFormatSpec.pre6 enc Try.prog Try.f5 Rows.fnFormatRow.domain false) (Rows.fnFormatSpec.post enc Try.prog Try.f5 false true false false) := by
  refine returnsInHanded_of_change_sized (C := Try.checked) own started (by kernel_rfl) Try.func5
    (ChangeSpec.witness6 (enc := enc) (C := Try.checked) false ⟨#[], #[.agg #[.int .i64 0, .int .i64 0, .int .i64 0, .int .i64 0, .int .i64 0, .int .i64 0, .int .u32 0, .int .u32 0, .int .u32 0, .int .u64 0, .int .u64 0, .int .u64 0, .int .u64 0]], []⟩ 8 (by kernel_rfl) (by kernel_rfl) (by kernel_rfl) (by kernel_rfl)) ?_
  intro W base args ds gs before hval0 hW hcnd hsz0 _
  have hval : ∀ (j : Nat) t v, Try.f5.params[j]? = some t → args[j]? = some v → Value.okWide Try.prog W .any base t v := hval0
  have hW' := hW
  obtain ⟨p, q, hA0, hV, rfl, hfz, hnd⟩ := hW
  have hA : DataW.TrodAll enc Try.prog W 0 (fun _ => true) true Try.f5.params.toList args.toList ds p := hA0
  rw [Try.params5] at hA hval
  obtain ⟨v0, vs0, d0, ds0, p0, q0, hargs, rfl, rfl, h0, r0⟩ := trodAll_cons hA
  obtain ⟨rfl, rfl, rfl⟩ := trodAll_nil r0
  obtain rfl : args = #[v0] := by cases args; simp_all
  obtain ⟨rfl, rfl⟩ := trodVars_none hV
  obtain ⟨leap, version, mode, stratum, poll, prec, rd, disp, rid, ref, orig, recv, xmit, rfl, rfl, rfl, w0, w1, w2, w3, w4, w5, w6, w7, w8, w9, w10, w11, w12⟩ := HdrArg.open_hdr (hval 0 36 v0 rfl rfl) h0
  clear hA0 hval0 hsz0
  refine (walk leap version mode stratum poll prec rd disp rid ref orig recv xmit w6 w7 w8 W).mono fun e W' ⟨he, bel⟩ => ?_
  subst he
  exact ⟨_, rfl, _, _, _, [], _, [], hW', trodAll_mk1 (shut_bool Try.underlying4 _), (trodAll_cons_mk (HdrArg.shut_hdr w0 w1 w2 w3 w4 w5 w6 w7 w8 w9 w10 w11 w12) trodAll_mk0), rfl, bel.frame _, fun h => by cases h⟩
theorem over : Rows.fnFormatRow.holds Try.pinned (OpenSpec.ofChange Rows.fnFormatSpec) :=
  OpenClaim.holds_of_wide 5 Try.f5 rfl rfl rfl rfl rfl rfl rfl ⟨rfl, rfl, rfl, rfl, rfl⟩ rfl rfl rfl rfl rfl (by kernel_rfl) Try.func5 (by kernel_rfl)
    (of_decide_eq_true (by kernel_rfl)) (by unfold Func.isWrapper; first | (rw [if_pos (by decide +kernel)]; kernel_rfl) | (rw [if_neg (by decide +kernel)]; exact ⟨rfl, rfl⟩))
    (fun os started H enc _ => lifted os started H enc)
theorem proved : Rows.FnFormatSaid := over
#print axioms proved
end Go.Proofs.Ytaanpoankljblaa.fnFormat
namespace Go.Proofs.Ytaanpoankljblaa
/-- The row, under a short name, for the claim. -/
theorem fnFormat_holds : Rows.FnFormatSaid := fnFormat.proved
end Go.Proofs.Ytaanpoankljblaa
