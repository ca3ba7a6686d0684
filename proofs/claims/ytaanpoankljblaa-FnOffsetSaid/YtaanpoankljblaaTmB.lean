/- Times without a reading of a monotonic clock: Add, Equal, Sub. -/
import Derived.Test.YtaanpoankljblaaTmA
namespace Go.Proofs.Ytaanpoankljblaa.TmB
open Go.RowKit Go.Proofs.Ytaanpoankljblaa.FmtA Go.Proofs.Ytaanpoankljblaa.FmtB Go.Proofs.Ytaanpoankljblaa.RdF Go.Proofs.Ytaanpoankljblaa.RdD Go.Proofs.Ytaanpoankljblaa.TmA
set_option linter.unusedVariables false
set_option linter.unusedSimpArgs false

theorem parts_of (d : Int) (d0 : -9223372036854775808 ≤ d) (d1 : d < 9223372036854775808) :
    d.tdiv 1000000000 * 1000000000 + d.tmod 1000000000 = d ∧ -9223372037 ≤ d.tdiv 1000000000 ∧ d.tdiv 1000000000 ≤ 9223372037 ∧ -1000000000 < d.tmod 1000000000 ∧ d.tmod 1000000000 < 1000000000 := by
  have h1 := Int.tmod_add_mul_tdiv d 1000000000
  have h2 : d.tmod 1000000000 < 1000000000 := Int.tmod_lt_of_pos d (by decide)
  have h3 : -1000000000 < d.tmod 1000000000 := by
    have := Int.lt_tmod_of_pos d (show (0 : Int) < 1000000000 by decide)
    omega
  omega

set_option maxHeartbeats 1600000 in
theorem add_up (n s d q r : Int) (w : World) (n0 : 0 ≤ n) (n1 : n < 1000000000) (s0 : -100000000000000000 ≤ s) (s1 : s < 100000000000000000) (hq : d.tdiv 1000000000 = q) (hr : d.tmod 1000000000 = r) (q0 : -9223372037 ≤ q) (q1 : q ≤ 9223372037) (r0 : -1000000000 < r) (r1 : r < 1000000000) (hc : 1000000000 ≤ n + r) :
    Calls Try.prog 100 #[.agg (tm n s), .int .i64 d] w fun e w' => e = .returned (.agg (tm (n + r - 1000000000) (s + (q + 1)))) ∧ w' = (w.alloc (.cells (tm (n + r - 1000000000) (s + (q + 1))) 92)).alloc (.cells (tm (n + r - 1000000000) (s + (q + 1))) 92) := by
  have b1 := not30 n n0 (by omega)
  have b2 := or0 (n + r - 1000000000) (by omega) (by omega)
  have b3 := ne0 (hi0 (n + r - 1000000000) (by omega) (by omega))
  unfold tm
  go_enter Try.func100, Try.ntmps100
  go_wp2_with fail
  refine (nsec_any w.heap.size n s _ (by unfold tm; exact alloc_old (alloc_at rfl)) n0 (by omega)).mono ?_
  rintro e w1 ⟨rfl, rfl⟩
  go_wp2_with fail
  refine (addSec_any w.heap.size (n + r - 1000000000) s _ _ (by unfold tm; exact alloc_old (alloc_at rfl)) (by omega) (by omega) (by omega) (by omega) (by omega) (by omega)).mono ?_
  rintro e w2 ⟨rfl, rfl⟩
  go_wp2_with fail
  exact bodyPost_ret (v := .agg (tm (n + r - 1000000000) (s + (q + 1)))) (by simp [results, Try.results100, go_sem, tm]) rfl ⟨rfl, rfl⟩

set_option maxHeartbeats 1600000 in
theorem add_mid (n s d q r : Int) (w : World) (n0 : 0 ≤ n) (n1 : n < 1000000000) (s0 : -100000000000000000 ≤ s) (s1 : s < 100000000000000000) (hq : d.tdiv 1000000000 = q) (hr : d.tmod 1000000000 = r) (q0 : -9223372037 ≤ q) (q1 : q ≤ 9223372037) (r0 : -1000000000 < r) (r1 : r < 1000000000) (hc : n + r < 1000000000 ∧ 0 ≤ n + r) :
    Calls Try.prog 100 #[.agg (tm n s), .int .i64 d] w fun e w' => e = .returned (.agg (tm (n + r) (s + (q)))) ∧ w' = (w.alloc (.cells (tm (n + r) (s + (q))) 92)).alloc (.cells (tm (n + r) (s + (q))) 92) := by
  have b1 := not30 n n0 (by omega)
  have b2 := or0 (n + r) (by omega) (by omega)
  have b3 := ne0 (hi0 (n + r) (by omega) (by omega))
  unfold tm
  go_enter Try.func100, Try.ntmps100
  go_wp2_with fail
  refine (nsec_any w.heap.size n s _ (by unfold tm; exact alloc_old (alloc_at rfl)) n0 (by omega)).mono ?_
  rintro e w1 ⟨rfl, rfl⟩
  go_wp2_with fail
  refine (addSec_any w.heap.size (n + r) s _ _ (by unfold tm; exact alloc_old (alloc_at rfl)) (by omega) (by omega) (by omega) (by omega) (by omega) (by omega)).mono ?_
  rintro e w2 ⟨rfl, rfl⟩
  go_wp2_with fail
  exact bodyPost_ret (v := .agg (tm (n + r) (s + (q)))) (by simp [results, Try.results100, go_sem, tm]) rfl ⟨rfl, rfl⟩

set_option maxHeartbeats 1600000 in
theorem add_down (n s d q r : Int) (w : World) (n0 : 0 ≤ n) (n1 : n < 1000000000) (s0 : -100000000000000000 ≤ s) (s1 : s < 100000000000000000) (hq : d.tdiv 1000000000 = q) (hr : d.tmod 1000000000 = r) (q0 : -9223372037 ≤ q) (q1 : q ≤ 9223372037) (r0 : -1000000000 < r) (r1 : r < 1000000000) (hc : n + r < 0) :
    Calls Try.prog 100 #[.agg (tm n s), .int .i64 d] w fun e w' => e = .returned (.agg (tm (n + r + 1000000000) (s + (q - 1)))) ∧ w' = (w.alloc (.cells (tm (n + r + 1000000000) (s + (q - 1))) 92)).alloc (.cells (tm (n + r + 1000000000) (s + (q - 1))) 92) := by
  have b1 := not30 n n0 (by omega)
  have b2 := or0 (n + r + 1000000000) (by omega) (by omega)
  have b3 := ne0 (hi0 (n + r + 1000000000) (by omega) (by omega))
  unfold tm
  go_enter Try.func100, Try.ntmps100
  go_wp2_with fail
  refine (nsec_any w.heap.size n s _ (by unfold tm; exact alloc_old (alloc_at rfl)) n0 (by omega)).mono ?_
  rintro e w1 ⟨rfl, rfl⟩
  go_wp2_with fail
  refine (addSec_any w.heap.size (n + r + 1000000000) s _ _ (by unfold tm; exact alloc_old (alloc_at rfl)) (by omega) (by omega) (by omega) (by omega) (by omega) (by omega)).mono ?_
  rintro e w2 ⟨rfl, rfl⟩
  go_wp2_with fail
  exact bodyPost_ret (v := .agg (tm (n + r + 1000000000) (s + (q - 1)))) (by simp [results, Try.results100, go_sem, tm]) rfl ⟨rfl, rfl⟩

theorem add_any (n s d : Int) (w : World) (n0 : 0 ≤ n) (n1 : n < 1000000000) (s0 : -100000000000000000 ≤ s) (s1 : s < 100000000000000000) (d0 : -9223372036854775808 ≤ d) (d1 : d < 9223372036854775808) :
    Calls Try.prog 100 #[.agg (tm n s), .int .i64 d] w fun e w' => e = .returned (.agg (tm ((n + d) % 1000000000) (s + (n + d) / 1000000000))) ∧ w' = (w.alloc (.cells (tm ((n + d) % 1000000000) (s + (n + d) / 1000000000)) 92)).alloc (.cells (tm ((n + d) % 1000000000) (s + (n + d) / 1000000000)) 92) := by
  obtain ⟨h1, h2, h3, h4, h5⟩ := parts_of d d0 d1
  obtain ⟨q, hq⟩ : ∃ q, d.tdiv 1000000000 = q := ⟨_, rfl⟩
  obtain ⟨r, hr⟩ : ∃ r, d.tmod 1000000000 = r := ⟨_, rfl⟩
  rw [hq, hr] at h1
  rw [hq] at h2 h3
  rw [hr] at h4 h5
  by_cases c1 : 1000000000 ≤ n + r
  · rw [show (n + d) % 1000000000 = n + r - 1000000000 by omega, show (n + d) / 1000000000 = q + 1 by omega]
    exact add_up n s d q r w n0 n1 s0 s1 hq hr h2 h3 h4 h5 c1
  · by_cases c2 : n + r < 0
    · rw [show (n + d) % 1000000000 = n + r + 1000000000 by omega, show (n + d) / 1000000000 = q - 1 by omega]
      exact add_down n s d q r w n0 n1 s0 s1 hq hr h2 h3 h4 h5 c2
    · rw [show (n + d) % 1000000000 = n + r by omega, show (n + d) / 1000000000 = q by omega]
      exact add_mid n s d q r w n0 n1 s0 s1 hq hr h2 h3 h4 h5 (by omega)

set_option maxHeartbeats 1600000 in
theorem equal_same (n s : Int) (w : World) (n0 : 0 ≤ n) (n1 : n < 1000000000) :
    Calls Try.prog 106 #[.agg (tm n s), .agg (tm n s)] w fun e w' => e = .returned (.bool true) ∧ w' = (w.alloc (.cells (tm n s) 92)).alloc (.cells (tm n s) 92) := by
  have b0 := ne0 (both0 n n n0 (by omega) n0 (by omega))
  unfold tm
  go_enter Try.func106, Try.ntmps106
  go_wp2_with fail
  refine (sec_any w.heap.size n s _ (by unfold tm; exact alloc_old (alloc_at rfl)) n0 (by omega)).mono ?_
  rintro e w1 ⟨rfl, rfl⟩
  go_wp2_with fail
  refine (sec_any (w.heap.size + 1) n s _ (by unfold tm; exact alloc_at (by simp)) n0 (by omega)).mono ?_
  rintro e w1 ⟨rfl, rfl⟩
  go_wp2_with fail
  refine (nsec_any w.heap.size n s _ (by unfold tm; exact alloc_old (alloc_at rfl)) n0 (by omega)).mono ?_
  rintro e w1 ⟨rfl, rfl⟩
  go_wp2_with fail
  refine (nsec_any (w.heap.size + 1) n s _ (by unfold tm; exact alloc_at (by simp)) n0 (by omega)).mono ?_
  rintro e w1 ⟨rfl, rfl⟩
  go_wp2_with fail
  go_ret
  exact ⟨rfl, rfl⟩

set_option maxHeartbeats 1600000 in
theorem sub_any (n s m u : Int) (w : World) (n0 : 0 ≤ n) (n1 : n < 1000000000) (m0 : 0 ≤ m) (m1 : m < 1000000000) (s0 : -100000000000000000 ≤ s) (s1 : s < 100000000000000000) (u0 : -100000000000000000 ≤ u) (u1 : u < 100000000000000000) (h0 : -9000000000 ≤ s - u) (h1 : s - u ≤ 9000000000) :
    Calls Try.prog 93 #[.agg (tm n s), .agg (tm m u)] w fun e w' => e = .returned (.int .i64 ((s - u) * 1000000000 + (n - m))) ∧ Below w.heap.size w w' := by
  have b0 := ne0 (both0 n m n0 (by omega) m0 (by omega))
  obtain ⟨d, hd⟩ : ∃ d, (s - u) * 1000000000 + (n - m) = d := ⟨_, rfl⟩
  have HA := fun W => add_any m u d W m0 m1 u0 u1 (by omega) (by omega)
  have e1 : (m + d) % 1000000000 = n := by omega
  have e2 : u + (m + d) / 1000000000 = s := by omega
  rw [e1, e2] at HA
  have HE := fun W => equal_same n s W n0 n1
  clear e1 e2
  unfold tm at HA HE ⊢
  go_enter Try.func93, Try.ntmps93
  go_wp2_with fail
  refine (sec_any w.heap.size n s _ (by unfold tm; exact alloc_old (alloc_at rfl)) n0 (by omega)).mono ?_
  rintro e w1 ⟨rfl, rfl⟩
  go_wp2_with fail
  refine (sec_any (w.heap.size + 1) m u _ (by unfold tm; exact alloc_at (by simp)) m0 (by omega)).mono ?_
  rintro e w1 ⟨rfl, rfl⟩
  go_wp2_with fail
  refine (nsec_any w.heap.size n s _ (by unfold tm; exact alloc_old (alloc_at rfl)) n0 (by omega)).mono ?_
  rintro e w1 ⟨rfl, rfl⟩
  go_wp2_with fail
  refine (nsec_any (w.heap.size + 1) m u _ (by unfold tm; exact alloc_at (by simp)) m0 (by omega)).mono ?_
  rintro e w1 ⟨rfl, rfl⟩
  go_wp2_with fail
  go_region_with (first | (go_at_call 100; refine (HA _).mono ?_; rintro e w1 ⟨rfl, rfl⟩) | (go_at_call 106; refine (HE _).mono ?_; rintro e w2 ⟨rfl, rfl⟩))
  all_goals
    go_ways
    go_wp2_with fail
    go_ret
    exact ⟨by rw [hd]; rfl, by repeat (first | exact Below.refl _ _ | apply Below.drew | (refine Below.alloc ?_ (by simp <;> omega) _))⟩

end Go.Proofs.Ytaanpoankljblaa.TmB
