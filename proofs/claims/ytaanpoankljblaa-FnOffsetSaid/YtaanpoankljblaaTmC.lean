/- 1900-01-01, as the package makes it. -/
import Derived.Test.YtaanpoankljblaaTmB
namespace Go.Proofs.Ytaanpoankljblaa.TmC
open Go.RowKit Go.Proofs.Ytaanpoankljblaa.FmtA Go.Proofs.Ytaanpoankljblaa.FmtB Go.Proofs.Ytaanpoankljblaa.RdF Go.Proofs.Ytaanpoankljblaa.RdD Go.Proofs.Ytaanpoankljblaa.TmA
set_option linter.unusedVariables false
set_option linter.unusedSimpArgs false

theorem norm_any (hi lo base : Int) (w : World) (l0 : 0 ≤ lo) (l1 : lo < base) :
    Calls Try.prog 111 #[.int .i64 hi, .int .i64 lo, .int .i64 base] w fun e w' => e = .returned (.tuple #[.int .i64 hi, .int .i64 lo]) ∧ w' = w := by
  go_enter Try.func111, Try.ntmps111
  go_wp2_with fail
  exact bodyPost_ret (v := .tuple #[.int .i64 hi, .int .i64 lo]) (by simp [results, Try.results111, go_sem]) rfl ⟨rfl, rfl⟩

theorem days_1900 (w : World) :
    Calls Try.prog 112 #[.int .i64 1900, .int .i64 1, .int .i64 1] w fun e w' => e = .returned (.int .u64 106751991047833) ∧ w' = w := by
  go_enter Try.func112, Try.ntmps112
  go_wp2_with fail
  go_ret
  exact ⟨rfl, rfl⟩

theorem utc_more {w : World} {B : Nat} {T : TypeId} (h : w.heap[B]? = some (.cells utcCells T (0, 0))) : w.cell? ⟨B, 2, none⟩ = some (.slice none 0 0) := by
  unfold World.cell?; rw [h]; rfl

theorem get_any (L : Nat) (w : World) :
    Calls Try.prog 114 #[.pointer (some ⟨L, 0, none⟩)] w fun e w' => e = .returned (.pointer (some ⟨L, 0, none⟩)) ∧ w' = w := by
  go_enter Try.func114, Try.ntmps114
  go_wp2_with fail
  go_ret
  exact ⟨rfl, rfl⟩

set_option maxHeartbeats 800000 in
set_option maxRecDepth 100000 in
theorem lookup_any (L : Nat) (x : Int) (w : World) (hL : w.heap[L]? = some (.cells utcCells 154 (0, 0))) :
    Calls Try.prog 113 #[.pointer (some ⟨L, 0, none⟩), .int .i64 x] w fun e w' => e = .returned (.tuple #[.string { data := #[85, 84, 67] }, .int .i64 0, .int .i64 (-9223372036854775808), .int .i64 9223372036854775807, .bool false]) ∧ w' = w := by
  have u2 := utc_more hL
  go_enter Try.func113, Try.ntmps113
  go_wp2_with fail
  refine (get_any _ _).mono ?_
  rintro e w1 ⟨rfl, rfl⟩
  go_wp2_with fail
  exact bodyPost_ret (v := .tuple #[.string { data := #[85, 84, 67] }, .int .i64 0, .int .i64 (-9223372036854775808), .int .i64 9223372036854775807, .bool false]) (by simp [results, Try.results113, go_sem]) rfl ⟨rfl, rfl⟩

set_option maxHeartbeats 1600000 in
set_option maxRecDepth 100000 in
theorem date_1900 (L : Nat) (w : World) (hL : w.heap[L]? = some (.cells utcCells 154 (0, 0))) :
    Calls Try.prog 109 #[.int .i64 1900, .int .i64 1, .int .i64 1, .int .i64 0, .int .i64 0, .int .i64 0, .int .i64 0, .pointer (some ⟨L, 0, none⟩)] w fun e w' => e = .returned (.agg (tm 0 59926608000)) ∧ w' = ((w.alloc (.cells (tm 0 59926608000) 92)).alloc (.cells (tm 0 59926608000) 92)).alloc (.cells (tm 0 59926608000) 92) := by
  have hLn : L < w.heap.size := (Array.getElem?_eq_some_iff.1 hL).1
  go_enter Try.func109, Try.ntmps109
  go_wp2_with fail
  refine (norm_any _ _ _ _ (by decide) (by decide)).mono ?_
  rintro e w1 ⟨rfl, rfl⟩
  go_wp2_with fail
  refine (norm_any _ _ _ _ (by decide) (by decide)).mono ?_
  rintro e w1 ⟨rfl, rfl⟩
  go_wp2_with fail
  refine (norm_any _ _ _ _ (by decide) (by decide)).mono ?_
  rintro e w1 ⟨rfl, rfl⟩
  go_wp2_with fail
  refine (norm_any _ _ _ _ (by decide) (by decide)).mono ?_
  rintro e w1 ⟨rfl, rfl⟩
  go_wp2_with fail
  refine (norm_any _ _ _ _ (by decide) (by decide)).mono ?_
  rintro e w1 ⟨rfl, rfl⟩
  go_wp2_with fail
  refine (days_1900 _).mono ?_
  rintro e w1 ⟨rfl, rfl⟩
  go_wp2_with fail
  refine (lookup_any L _ _ (by exact alloc_old hL)).mono ?_
  rintro e w1 ⟨rfl, rfl⟩
  go_wp2_with fail
  refine (unixTime_any (-2208988800) 0 _ (by decide) (by decide) (by decide) (by decide)).mono ?_
  rintro e w1 ⟨rfl, rfl⟩
  unfold tm
  go_wp2_with fail
  refine (setLoc_any (w.heap.size + 1 + 1) L 0 59926608000 _ (by unfold tm; exact alloc_at (by simp)) (by exact alloc_old (alloc_old (alloc_old hL))) (by decide) (by decide)).mono ?_
  rintro e w1 ⟨rfl, rfl⟩
  go_wp2_with fail
  exact bodyPost_ret (v := .agg (tm 0 59926608000)) (by simp [results, Try.results109, go_sem, tm]) rfl ⟨rfl, rfl⟩

/-- The world behind making 1900-01-01. -/
def era0W (w : World) : World := ((((w.alloc (.cells (tm 0 59926608000) 92)).alloc (.cells utcCells 154)).alloc (.cells (tm 0 59926608000) 92)).alloc (.cells (tm 0 59926608000) 92)).alloc (.cells (tm 0 59926608000) 92)

theorem era0_any (w : World) :
    Calls Try.prog 99 #[] w fun e w' => e = .returned (.agg (tm 0 59926608000)) ∧ w' = era0W w := by
  go_enter Try.func99, Try.ntmps99
  go_wp2_with fail
  refine (utc_any _).mono ?_
  rintro e w1 ⟨rfl, rfl⟩
  go_wp2_with fail
  refine (date_1900 _ _ (by exact alloc_at (by simp))).mono ?_
  rintro e w1 ⟨rfl, rfl⟩
  unfold tm
  go_wp2_with fail
  exact bodyPost_ret (v := .agg (tm 0 59926608000)) (by simp [results, Try.results99, go_sem, tm]) rfl ⟨rfl, rfl⟩

/-- The nanoseconds of a number of 64 bits, rounded half up. -/
def durI (N : Int) : Int := N / 4294967296 * 1000000000 + (N % 4294967296 * 1000000000 / 4294967296 + (N % 4294967296 * 1000000000 % 4294967296 + 2147483648) / 4294967296)

theorem duration_any (N : Int) (w : World) (n0 : 0 ≤ N) (n1 : N < 18446744073709551616) :
    Calls Try.prog 66 #[.int .u64 N] w fun e w' => e = .returned (.int .i64 (durI N)) ∧ w' = w := by
  have e1 := and_low32 N n0 n1
  unfold durI
  obtain ⟨lo, hlo⟩ : ∃ lo, N % 4294967296 = lo := ⟨_, rfl⟩
  obtain ⟨hi, hhi⟩ : ∃ hi, N / 4294967296 = hi := ⟨_, rfl⟩
  rw [hlo] at e1
  have l0 : 0 ≤ lo := by omega
  have l1 : lo < 4294967296 := by omega
  have h0 : 0 ≤ hi := by omega
  have h1 : hi < 4294967296 := by omega
  have e2 := and_low32 (lo * 1000000000) (by omega) (by omega)
  rw [hlo, hhi]
  obtain ⟨f, hf⟩ : ∃ f, lo * 1000000000 % 4294967296 = f := ⟨_, rfl⟩
  have f0 : 0 ≤ f := by omega
  have f1 : f < 4294967296 := by omega
  rw [hf] at e2 ⊢
  clear hlo
  go_enter Try.func66, Try.ntmps66
  go_wp2_with fail
  go_ret
  exact ⟨rfl, rfl⟩

set_option maxHeartbeats 1600000 in
theorem getEra_any (n s : Int) (w : World) (n0 : 0 ≤ n) (n1 : n < 1000000000) (s0 : 59926608000 ≤ s) (s1 : s < 100000000000000000) :
    Calls Try.prog 102 #[.agg (tm n s)] w fun e w' => e = .returned (.int .i64 ((s - 59926608000) / 4294967296)) ∧ w' = (era0W ((w.alloc (.cells (tm n s) 92)).alloc (.cells (tm n s) 92))).alloc (.cells (tm 0 59926608000) 92) := by
  unfold tm
  go_enter Try.func102, Try.ntmps102
  go_wp2_with fail
  refine (tUnix_any n s _ n0 (by omega) (by omega) (by omega)).mono ?_
  rintro e w1 ⟨rfl, rfl⟩
  unfold tm
  go_wp2_with fail
  refine (era0_any _).mono ?_
  rintro e w1 ⟨rfl, rfl⟩
  unfold era0W tm
  go_wp2_with fail
  refine (tUnix_any 0 59926608000 _ (by decide) (by decide) (by decide) (by decide)).mono ?_
  rintro e w1 ⟨rfl, rfl⟩
  unfold tm
  go_wp2_with fail
  go_ret
  exact ⟨by rw [show s - 59926608000 = s + -62135596800 + 2208988800 by omega]; rfl, rfl⟩

end Go.Proofs.Ytaanpoankljblaa.TmC
