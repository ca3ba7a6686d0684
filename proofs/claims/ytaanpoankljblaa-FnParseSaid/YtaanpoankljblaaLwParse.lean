/- FnParse returns true for every header, every slice of bytes behind it and every number. No condition. -/
import Derived.Test.YtaanpoankljblaaRows
import Derived.Test.YtaanpoankljblaaRdJ
import Derived.Test.YtaanpoankljblaaHdrArg
import Derived.WalkKit
import Derived.ProofKit
import Derived.OpenShut
import Derived.ShutString
import Derived.ChangeOld
import Derived.Below
import Derived.SizedLaws
namespace Go.Proofs.Ytaanpoankljblaa.fnParse
open Go.ChangeShapes Go.WideShapes Go.ChangeAt Go.RowKit
set_option linter.unusedVariables false
theorem own : ownKnob Try.prog.godebug = none := by kernel_rfl
theorem laidOut : laidOutB Try.prog = true := by kernel_rfl
theorem bounds32 {n : Int} (h : (Lit.int .u32 n).wf = true) : 0 ≤ n ∧ n < 4294967296 := by
  have h0 := of_decide_eq_true ((Bool.and_eq_true _ _).mp h).1
  have h1 := of_decide_eq_true ((Bool.and_eq_true _ _).mp h).2
  exact ⟨h0, Int.lt_of_le_sub_one h1⟩
theorem bounds64 {n : Int} (h : (Lit.int .u64 n).wf = true) : 0 ≤ n ∧ n < 18446744073709551616 := by
  have h0 := of_decide_eq_true ((Bool.and_eq_true _ _).mp h).1
  have h1 := of_decide_eq_true ((Bool.and_eq_true _ _).mp h).2
  exact ⟨h0, Int.lt_of_le_sub_one h1⟩

theorem cell_lies {w : World} {p : Addr} {v : Value} (h : w.cell? p = some v) : p.block < w.heap.size := by
  refine Classical.byContradiction fun hn => ?_
  have e : w.heap[p.block]? = none := Array.getElem?_eq_none (by omega)
  unfold World.cell? at h
  rw [e] at h
  cases h

def IsRow (w : World) (a : Option Addr) (len cap : Nat) (zs : List Int) : Prop :=
  (a = none ∧ len = 0 ∧ cap = 0 ∧ zs = []) ∨
  ∃ x, a = some x ∧ len ≤ cap ∧ cap ≤ maxLen ∧ zs.length = cap ∧ (∀ i, i < zs.length → w.cell? (x.add i) = some (.int .u8 (zs.getD i 0))) ∧ ∀ n ∈ zs, (Lit.int .u8 n).wf = true

theorem came_of {w : World} {a : Option Addr} {len cap : Nat} {zs : List Int} (h : IsRow w a len cap zs) : RdI.Came w a len (zs.take len) ∧ (a = none → len = 0 ∧ cap = 0) := by
  rcases h with ⟨rfl, rfl, rfl, rfl⟩ | ⟨x, rfl, hl, _, hz, hc, _⟩
  · exact ⟨⟨rfl, fun ad had => by cases had⟩, fun _ => ⟨rfl, rfl⟩⟩
  · refine ⟨⟨by rw [List.length_take]; omega, fun ad had j y hj => ?_⟩, fun hn => by cases hn⟩
    obtain rfl := Option.some.inj had
    have hj' : zs[j]? = some y := by
      rw [List.getElem?_take] at hj
      split at hj
      · exact hj
      · cases hj
    have hlt := (List.getElem?_eq_some_iff.1 hj').1
    have hcell := hc j hlt
    rw [show zs.getD j 0 = y by simp [hj']] at hcell
    have e : (x.add j).block = x.block := by unfold Addr.add; split <;> rfl
    exact ⟨hcell, e ▸ cell_lies hcell⟩

theorem walk (leap version mode stratum poll prec rd disp rid ref orig recv xmit : Int) (a : Option Addr) (len cap : Nat) (n : Int) (zs : List Int) (w6 : (Lit.int .u32 rd).wf = true) (w7 : (Lit.int .u32 disp).wf = true) (w8 : (Lit.int .u32 rid).wf = true)
    (w9 : (Lit.int .u64 ref).wf = true) (w10 : (Lit.int .u64 orig).wf = true) (w11 : (Lit.int .u64 recv).wf = true) (w12 : (Lit.int .u64 xmit).wf = true) (w : World) (hr : IsRow w a len cap zs) :
    Calls Try.prog 6 #[.agg #[.int .i64 leap, .int .i64 version, .int .i64 mode, .int .i64 stratum, .int .i64 poll, .int .i64 prec, .int .u32 rd, .int .u32 disp, .int .u32 rid, .int .u64 ref, .int .u64 orig, .int .u64 recv, .int .u64 xmit], .slice a len cap, .int .i64 n] w
      fun e w' => e = .returned (.bool true) ∧ Below w.heap.size w w' := by
  by_cases hbig : 2147483647 < (len : Int)
  · exact RdI.law_big _ a len cap n ⟨_, _, _, _, _, _, _, _, _, _, _, _, _, rfl⟩ w hbig
  · cases hp : Proper.properB leap version mode stratum poll prec with
    | false => exact RdI.law_no leap version mode stratum poll prec rd disp rid ref orig recv xmit a len cap n w (by omega) (.inl hp)
    | true =>
      by_cases h100 : (100 : Int) < (len : Int)
      · exact RdI.law_no leap version mode stratum poll prec rd disp rid ref orig recv xmit a len cap n w (by omega) (.inr ⟨hp, h100⟩)
      · exact RdJ.law_yes leap version mode stratum poll prec rd disp rid ref orig recv xmit a len cap n (zs.take len) w (by omega) (came_of hr).2 (came_of hr).1 hp (bounds32 w6).1 (bounds32 w6).2 (bounds32 w7).1 (bounds32 w7).2 (bounds32 w8).1 (bounds32 w8).2
          (bounds64 w9).1 (bounds64 w9).2 (bounds64 w10).1 (bounds64 w10).2 (bounds64 w11).1 (bounds64 w11).2 (bounds64 w12).1 (bounds64 w12).2

set_option maxRecDepth 100000 in
theorem lifted (os : Os) (started : os.Started) (H : Type) (enc : TypeId × Value → H) :
    ReturnsInHanded {} Try.checked os 6 .any (Rows.fnParseSpec.pre6 enc Try.prog Try.f6 Rows.fnParseRow.domain false) (Rows.fnParseSpec.post enc Try.prog Try.f6 false true false false) := by
  refine returnsInHanded_of_change_sized (C := Try.checked) own started (by kernel_rfl) Try.func6
    (ChangeSpec.witness6 (enc := enc) (C := Try.checked) false ⟨#[], #[.agg #[.int .i64 0, .int .i64 0, .int .i64 0, .int .i64 0, .int .i64 0, .int .i64 0, .int .u32 0, .int .u32 0, .int .u32 0, .int .u64 0, .int .u64 0, .int .u64 0, .int .u64 0], .slice none 0 0, .int .i64 0], []⟩ 8 (by kernel_rfl) (by kernel_rfl) (by kernel_rfl) (by kernel_rfl)) ?_
  intro W base args ds gs before hval0 hW hcnd hsz0 _
  have hval : ∀ (j : Nat) t v, Try.f6.params[j]? = some t → args[j]? = some v → Value.okWide Try.prog W .any base t v := hval0
  have hW' := hW
  obtain ⟨p, q, hA0, hV, rfl, hfz, hnd⟩ := hW
  have hA : DataW.TrodAll enc Try.prog W 0 (fun _ => true) true Try.f6.params.toList args.toList ds p := hA0
  rw [Try.params6] at hA hval
  obtain ⟨v0, vs0, d0, ds0, p0, q0, hargs, rfl, rfl, h0, r0⟩ := trodAll_cons hA
  obtain ⟨v1, vs1, d1, ds1, p1, q1, rfl, rfl, rfl, h1, r1⟩ := trodAll_cons r0
  obtain ⟨v2, vs2, d2, ds2, p2, q2, rfl, rfl, rfl, h2, r2⟩ := trodAll_cons r1
  obtain ⟨rfl, rfl, rfl⟩ := trodAll_nil r2
  obtain rfl : args = #[v0, v1, v2] := by cases args; simp_all
  obtain ⟨rfl, rfl⟩ := trodVars_none hV
  obtain ⟨leap, version, mode, stratum, poll, prec, rd, disp, rid, ref, orig, recv, xmit, rfl, rfl, rfl, w0, w1, w2, w3, w4, w5, w6, w7, w8, w9, w10, w11, w12⟩ := HdrArg.open_hdr (hval 0 36 v0 rfl rfl) h0
  obtain ⟨a1, len1, cap1, rfl⟩ := okWide_slice Try.underlying40 (hval 1 40 v1 rfl rfl)
  have k1 := h1
  have lt1 : ∀ x ∈ p1, x.block < W.heap.size := by obtain ⟨m, hm⟩ := k1; exact DataW.trod_lt m _ _ _ hm
  obtain ⟨z1, x1⟩ : ∃ zs, IsRow W a1 len1 cap1 zs := by
    obtain ⟨fuel, hf⟩ := h1
    rcases open_ints Try.underlying40 Try.underlying5 (by kernel_rfl) hf with ⟨hcs, _⟩ | ⟨x, l, c, zs, hcs, _, hl, hm, hz, _, hcell, hwz⟩
    · simp [Value.cells] at hcs
      obtain ⟨rfl, rfl, rfl⟩ := hcs
      exact ⟨[], .inl ⟨rfl, rfl, rfl, rfl⟩⟩
    · simp [Value.cells] at hcs
      obtain ⟨rfl, rfl, rfl⟩ := hcs
      exact ⟨zs, .inr ⟨_, rfl, hl, hm, by simpa using hz, hcell, hwz⟩⟩
  obtain ⟨a2, rfl, rfl, rfl, y2⟩ := open_int Try.underlying3 (hval 2 3 v2 rfl rfl) h2
  clear hA0 hval0 hsz0
  refine (walk leap version mode stratum poll prec rd disp rid ref orig recv xmit a1 len1 cap1 a2 z1 w6 w7 w8 w9 w10 w11 w12 W x1).mono fun e W' ⟨he, bel⟩ => ?_
  subst he
  exact ⟨_, rfl, _, _, _, [], _, [], hW', trodAll_mk1 (shut_bool Try.underlying4 _), (trodAll_cons_mk (HdrArg.shut_hdr w0 w1 w2 w3 w4 w5 w6 w7 w8 w9 w10 w11 w12) (trodAll_cons_mk (Below.trod laidOut (by kernel_rfl) (of_decide_eq_true (by kernel_rfl)) k1 bel lt1) (trodAll_cons_mk (shut_int Try.underlying3 y2) trodAll_mk0))), rfl, bel.frame _, fun h => by cases h⟩
theorem over : Rows.fnParseRow.holds Try.pinned (OpenSpec.ofChange Rows.fnParseSpec) :=
  OpenClaim.holds_of_wide 6 Try.f6 rfl rfl rfl rfl rfl rfl rfl ⟨rfl, rfl, rfl, rfl, rfl⟩ rfl rfl rfl rfl rfl (by kernel_rfl) Try.func6 (by kernel_rfl)
    (of_decide_eq_true (by kernel_rfl)) (by unfold Func.isWrapper; first | (rw [if_pos (by decide +kernel)]; kernel_rfl) | (rw [if_neg (by decide +kernel)]; exact ⟨rfl, rfl⟩))
    (fun os started H enc _ => lifted os started H enc)
theorem proved : Rows.FnParseSaid := over
#print axioms proved
end Go.Proofs.Ytaanpoankljblaa.fnParse
namespace Go.Proofs.Ytaanpoankljblaa
/-- The row, under a short name, for the claim. -/
theorem fnParse_holds : Rows.FnParseSaid := fnParse.proved
end Go.Proofs.Ytaanpoankljblaa
