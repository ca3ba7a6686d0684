/- spec.Answer at a header whose numbers are of their sizes; the first byte's parts. -/
import Derived.Test.YtaanpoankljblaaRdG
namespace Go.Proofs.Ytaanpoankljblaa.RdH
open Go.RowKit Go.Proofs.Ytaanpoankljblaa.RdA Go.Proofs.Ytaanpoankljblaa.RdC Go.Proofs.Ytaanpoankljblaa.RdD Go.Proofs.Ytaanpoankljblaa.RdF Go.Proofs.Ytaanpoankljblaa.FmtA Go.Proofs.Ytaanpoankljblaa.FmtB Go.Proofs.Ytaanpoankljblaa.Proper
set_option linter.unusedVariables false
set_option linter.unusedSimpArgs false

theorem parts_all : ∀ (l : Fin 4) (v m : Fin 8), (decide (0 ≤ first l.val v.val m.val) && decide (first l.val v.val m.val < 256) && (first l.val v.val m.val / 64 % 4 == (l.val : Int)) && (first l.val v.val m.val / 8 % 8 == (v.val : Int)) && (first l.val v.val m.val % 8 == (m.val : Int))) = true := by decide +kernel
theorem parts (l v m : Int) (l0 : 0 ≤ l) (l1 : l ≤ 3) (v0 : 0 ≤ v) (v1 : v ≤ 7) (m0 : 0 ≤ m) (m1 : m ≤ 7) :
    0 ≤ first l v m ∧ first l v m < 256 ∧ first l v m / 64 % 4 = l ∧ first l v m / 8 % 8 = v ∧ first l v m % 8 = m := by
  have h := parts_all ⟨l.toNat, by omega⟩ ⟨v.toNat, by omega⟩ ⟨m.toNat, by omega⟩
  simp only [Int.toNat_of_nonneg l0, Int.toNat_of_nonneg v0, Int.toNat_of_nonneg m0] at h
  simp only [Bool.and_eq_true, decide_eq_true_eq, beq_iff_eq] at h
  exact ⟨h.1.1.1.1, h.1.1.1.2, h.1.1.2, h.1.2, h.2⟩

set_option maxHeartbeats 800000 in
set_option maxRecDepth 100000 in
theorem answer_any (leap version mode stratum poll prec rd disp rid ref orig recv xmit : Int) (w : World) (hp : properB leap version mode stratum poll prec = true) (b : Bool) (hb : b = decide (mode = 4 ∧ xmit ≠ 0 ∧ recv ≤ xmit)) :
    Calls Try.prog 25 #[.agg #[.int .i64 leap, .int .i64 version, .int .i64 mode, .int .i64 stratum, .int .i64 poll, .int .i64 prec, .int .u32 rd, .int .u32 disp, .int .u32 rid, .int .u64 ref, .int .u64 orig, .int .u64 recv, .int .u64 xmit]] w
      fun e w' => e = .returned (.bool b) ∧ Below w.heap.size w w' := by
  have HP := Keep.mk hp
  have HB := Keep.mk hb
  clear hp hb
  go_enter Try.func25, Try.ntmps25
  go_wp2_with fail
  refine (proper_any _ _ _ _ _ _ _ _ _ _ _ _ _ _).mono ?_
  rintro e w1 ⟨rfl, hb1⟩
  rw [HP.out]
  have HX := Keep.mk (nxt (alc (Below.refl _ _) _) hb1)
  have hH : w1.heap[w.heap.size]? = some (.cells (hdrCells leap version mode stratum poll prec rd disp rid ref orig recv xmit) 37 (0, 0)) := (hb1.block _ (by simp)).trans (heap_alloc_new w _)
  obtain ⟨c0, c1, c2, c3, c4, c5, c6, c7, c8, c9, c10, c11, c12⟩ := FmtD.hdr_cells hH
  clear hb1 hH c0 c1 c3 c4 c5 c6 c7 c8 c9 c10
  by_cases h4 : mode = 4
  · have e4 : (mode == 4) = true := by simp [h4]
    have H4 := Keep.mk h4
    clear h4
    by_cases hx : xmit = 0
    · have e0 : (xmit == 0) = true := by simp [hx]
      have e1 : (xmit != 0) = false := by simp [hx]
      have H0 := Keep.mk hx
      clear hx
      go_wp2_with fail
      go_ret
      have hb := HB.out
      rw [decide_eq_false (fun h => h.2.1 H0.out)] at hb
      subst hb
      exact ⟨rfl, HX.out⟩
    · have e0 : (xmit == 0) = false := by simp [hx]
      have e1 : (xmit != 0) = true := by simp [hx]
      have H0 := Keep.mk hx
      clear hx
      by_cases hr : recv ≤ xmit
      · go_wp2_with fail
        go_ret
        have hb := HB.out
        rw [decide_eq_true (show mode = 4 ∧ xmit ≠ 0 ∧ recv ≤ xmit from ⟨H4.out, H0.out, hr⟩)] at hb
        subst hb
        exact ⟨rfl, HX.out⟩
      · have hd : decide (recv ≤ xmit) = false := decide_eq_false hr
        go_wp2_with fail
        go_ret
        have hb := HB.out
        rw [decide_eq_false (fun h => absurd h.2.2 (by omega))] at hb
        subst hb
        exact ⟨rfl, HX.out⟩
  · have e4 : (mode == 4) = false := by simp [h4]
    have H4 := Keep.mk h4
    clear h4
    go_wp2_with fail
    go_ret
    have hb := HB.out
    rw [decide_eq_false (fun h => H4.out h.1)] at hb
    subst hb
    exact ⟨rfl, HX.out⟩

end Go.Proofs.Ytaanpoankljblaa.RdH
