/- Numbers of an era as times. -/
import Derived.Test.YtaanpoankljblaaTmD
namespace Go.Proofs.Ytaanpoankljblaa.TmE
open Go.RowKit Go.Proofs.Ytaanpoankljblaa.RdA Go.Proofs.Ytaanpoankljblaa.FmtA Go.Proofs.Ytaanpoankljblaa.FmtB Go.Proofs.Ytaanpoankljblaa.RdF Go.Proofs.Ytaanpoankljblaa.RdD Go.Proofs.Ytaanpoankljblaa.TmA Go.Proofs.Ytaanpoankljblaa.TmB Go.Proofs.Ytaanpoankljblaa.TmC Go.Proofs.Ytaanpoankljblaa.TmD
set_option linter.unusedVariables false
set_option linter.unusedSimpArgs false

theorem ofEra0 (N : Int) (w : World) (n0 : 0 ≤ N) (n1 : N < 18446744073709551616) :
    Calls Try.prog 35 #[.int .u64 N, .int .i64 0] w fun e w' => e = .returned (.agg #[.int .i64 (-2208988800 + durI N / 1000000000), .int .i64 (durI N % 1000000000)]) ∧ Below w.heap.size w w' := by
  obtain ⟨d0, d1⟩ := durI_bounds N n0 n1
  have HT := fun W => zzof0 N W n0 n1
  have HP := fun W => plain_any (durI N % 1000000000) (59926608000 + durI N / 1000000000) W (by omega) (by omega) (by omega) (by omega)
  rw [show 59926608000 + durI N / 1000000000 + -62135596800 = -2208988800 + durI N / 1000000000 by omega] at HP
  obtain ⟨a, ha⟩ : ∃ a, durI N % 1000000000 = a := ⟨_, rfl⟩
  obtain ⟨b, hb⟩ : ∃ b, 59926608000 + durI N / 1000000000 = b := ⟨_, rfl⟩
  obtain ⟨c, hc⟩ : ∃ c, -2208988800 + durI N / 1000000000 = c := ⟨_, rfl⟩
  rw [ha, hb] at HT HP
  rw [hc] at HP ⊢
  rw [ha] at ⊢
  unfold tm at HT HP
  clear ha hb hc
  go_enter Try.func35, Try.ntmps35
  obtain ⟨B, hB⟩ : ∃ B, B = w.heap.size := ⟨_, rfl⟩
  go_wp2_with fail
  refine (FmtC.within1 _ _ 0 _ _ (by go_simp) (by decide) (by decide)).mono ?_
  rintro e w1 ⟨rfl, rfl⟩
  go_wp2_with fail
  refine (HT _).mono ?_
  rintro e w1 ⟨rfl, hb1⟩
  have K := (hb1.block _ (by simp <;> omega)).trans ((Below.heap_alloc _ _ _ (by simp)).trans (heap_alloc_new w _))
  have HB := nxt (alc (alc (Below.refl _ w) _) _) hb1
  clear hb1
  go_wp2_with fail
  refine (HP _).mono ?_
  rintro e w2 ⟨rfl, hb2⟩
  have K2 := (hb2.block _ (Array.getElem?_eq_some_iff.1 K).1).trans K
  have HB2 := nxt HB hb2
  rw [← hB] at K2 HB2 ⊢
  have HN := Keep.mk hB
  clear hb2 hB K HB
  go_wp2_with (refine wpList_store_row rfl 49 (.tmp 4) (.tmp 14) rfl B #[.int .i64 c, .int .i64 a] rfl rfl 49 _ K2 pl49_info rfl (pl_one c a) ?_)
  obtain ⟨c0, c1⟩ := pl_cells (setRow_heap w2 B _ #[.int .i64 c, .int .i64 a] 49 (0, 0) K2)
  have H5 := below_setRow HB2 (Nat.le_refl B) #[.int .i64 c, .int .i64 a]
  go_wp2_with fail
  exact bodyPost_ret (v := .agg #[.int .i64 c, .int .i64 a]) (by simp [results, Try.results35, go_sem, c0, c1]) rfl ⟨rfl, HN.out ▸ H5⟩

theorem ofEra1 (N : Int) (w : World) (n0 : 0 ≤ N) (n1 : N < 18446744073709551616) :
    Calls Try.prog 35 #[.int .u64 N, .int .i64 1] w fun e w' => e = .returned (.agg #[.int .i64 (2085978496 + durI N / 1000000000), .int .i64 (durI N % 1000000000)]) ∧ Below w.heap.size w w' := by
  obtain ⟨d0, d1⟩ := durI_bounds N n0 n1
  have HT := fun W => zzof1 N W n0 n1
  have HP := fun W => plain_any (durI N % 1000000000) (64221575296 + durI N / 1000000000) W (by omega) (by omega) (by omega) (by omega)
  rw [show 64221575296 + durI N / 1000000000 + -62135596800 = 2085978496 + durI N / 1000000000 by omega] at HP
  obtain ⟨a, ha⟩ : ∃ a, durI N % 1000000000 = a := ⟨_, rfl⟩
  obtain ⟨b, hb⟩ : ∃ b, 64221575296 + durI N / 1000000000 = b := ⟨_, rfl⟩
  obtain ⟨c, hc⟩ : ∃ c, 2085978496 + durI N / 1000000000 = c := ⟨_, rfl⟩
  rw [ha, hb] at HT HP
  rw [hc] at HP ⊢
  rw [ha] at ⊢
  unfold tm at HT HP
  clear ha hb hc
  go_enter Try.func35, Try.ntmps35
  obtain ⟨B, hB⟩ : ∃ B, B = w.heap.size := ⟨_, rfl⟩
  go_wp2_with fail
  refine (FmtC.within1 _ _ 1 _ _ (by go_simp) (by decide) (by decide)).mono ?_
  rintro e w1 ⟨rfl, rfl⟩
  go_wp2_with fail
  refine (HT _).mono ?_
  rintro e w1 ⟨rfl, hb1⟩
  have K := (hb1.block _ (by simp <;> omega)).trans ((Below.heap_alloc _ _ _ (by simp)).trans (heap_alloc_new w _))
  have HB := nxt (alc (alc (Below.refl _ w) _) _) hb1
  clear hb1
  go_wp2_with fail
  refine (HP _).mono ?_
  rintro e w2 ⟨rfl, hb2⟩
  have K2 := (hb2.block _ (Array.getElem?_eq_some_iff.1 K).1).trans K
  have HB2 := nxt HB hb2
  rw [← hB] at K2 HB2 ⊢
  have HN := Keep.mk hB
  clear hb2 hB K HB
  go_wp2_with (refine wpList_store_row rfl 49 (.tmp 4) (.tmp 14) rfl B #[.int .i64 c, .int .i64 a] rfl rfl 49 _ K2 pl49_info rfl (pl_one c a) ?_)
  obtain ⟨c0, c1⟩ := pl_cells (setRow_heap w2 B _ #[.int .i64 c, .int .i64 a] 49 (0, 0) K2)
  have H5 := below_setRow HB2 (Nat.le_refl B) #[.int .i64 c, .int .i64 a]
  go_wp2_with fail
  exact bodyPost_ret (v := .agg #[.int .i64 c, .int .i64 a]) (by simp [results, Try.results35, go_sem, c0, c1]) rfl ⟨rfl, HN.out ▸ H5⟩


theorem moment_any (s n : Int) (w : World) :
    Calls Try.prog 26 #[.agg #[.int .i64 s, .int .i64 n]] w fun e w' => e = .returned (.agg #[.int .i64 s, .int .i64 n]) ∧ w' = (w.alloc (.cells #[.int .i64 s, .int .i64 n] 49)).alloc (.cells #[.int .i64 s, .int .i64 n] 50) := by
  go_enter Try.func26, Try.ntmps26
  go_wp2_with fail
  exact bodyPost_ret (v := .agg #[.int .i64 s, .int .i64 n]) (by simp [results, Try.results26, go_sem]) rfl ⟨rfl, rfl⟩

theorem fraction_any (x : Int) (w : World) (x0 : 0 ≤ x) (x1 : x < 4294967296) :
    Calls Try.prog 14 #[.int .u32 x] w fun e w' => e = .returned (.int .i64 (x * 1000000000 / 4294967296)) ∧ w' = w := by
  go_enter Try.func14, Try.ntmps14
  go_wp2_with fail
  go_ret
  exact ⟨rfl, rfl⟩

theorem near_any (a b : Int) (w : World) (a0 : -4611686018427387904 ≤ a) (a1 : a < 4611686018427387904) (b0 : -4611686018427387904 ≤ b) (b1 : b < 4611686018427387904) (h0 : -1 ≤ a - b) (h1 : a - b ≤ 1) :
    Calls Try.prog 15 #[.int .i64 a, .int .i64 b] w fun e w' => e = .returned (.bool true) ∧ w' = w := by
  go_enter Try.func15, Try.ntmps15
  go_wp2_with fail
  go_ret
  exact ⟨rfl, rfl⟩

theorem between_any (a b c d : Int) (w : World) (a0 : -100000000000 ≤ a) (a1 : a < 100000000000) (c0 : -100000000000 ≤ c) (c1 : c < 100000000000) (b0 : 0 ≤ b) (b1 : b < 4000000000) (d0 : 0 ≤ d) (d1 : d < 4000000000) (h0 : -9000000000 ≤ c - a) (h1 : c - a ≤ 9000000000) :
    Calls Try.prog 37 #[.agg #[.int .i64 a, .int .i64 b], .agg #[.int .i64 c, .int .i64 d]] w fun e w' => e = .returned (.int .i64 ((c - a) * 1000000000 + (d - b))) ∧ w' = (w.alloc (.cells #[.int .i64 a, .int .i64 b] 50)).alloc (.cells #[.int .i64 c, .int .i64 d] 50) := by
  go_enter Try.func37, Try.ntmps37
  go_wp2_with fail
  go_ret
  exact ⟨rfl, rfl⟩

theorem specOf0 (N : Int) (w : World) (n0 : 0 ≤ N) (n1 : N < 18446744073709551616) :
    Calls Try.prog 36 #[.int .u64 N, .int .i64 0] w fun e w' => e = .returned (.agg #[.int .i64 (N / 4294967296 - 2208988800), .int .i64 (N % 4294967296 * 1000000000 / 4294967296)]) ∧ w' = w.alloc (.cells #[.int .i64 (N / 4294967296 - 2208988800), .int .i64 (N % 4294967296 * 1000000000 / 4294967296)] 50) := by
  obtain ⟨lo, hlo⟩ : ∃ lo, N % 4294967296 = lo := ⟨_, rfl⟩
  obtain ⟨hi, hhi⟩ : ∃ hi, N / 4294967296 = hi := ⟨_, rfl⟩
  have ew : IntKind.u32.wrap N = lo := by rw [IntKind.wrap_u32']; exact hlo
  rw [hlo, hhi]
  have l0 : 0 ≤ lo := by omega
  have l1 : lo < 4294967296 := by omega
  have h0 : 0 ≤ hi := by omega
  have h1 : hi < 4294967296 := by omega
  have HF := fun W => fraction_any lo W l0 l1
  clear hlo
  go_enter Try.func36, Try.ntmps36
  go_wp2_with fail
  refine (HF _).mono ?_
  rintro e w1 ⟨rfl, rfl⟩
  go_wp2_with fail

  exact bodyPost_ret (v := .agg #[.int .i64 (hi - 2208988800), .int .i64 (lo * 1000000000 / 4294967296)]) (by simp [results, Try.results36, go_sem]) rfl ⟨rfl, rfl⟩

theorem specOf1 (N : Int) (w : World) (n0 : 0 ≤ N) (n1 : N < 18446744073709551616) :
    Calls Try.prog 36 #[.int .u64 N, .int .i64 1] w fun e w' => e = .returned (.agg #[.int .i64 (N / 4294967296 + 4294967296 - 2208988800), .int .i64 (N % 4294967296 * 1000000000 / 4294967296)]) ∧ w' = w.alloc (.cells #[.int .i64 (N / 4294967296 + 4294967296 - 2208988800), .int .i64 (N % 4294967296 * 1000000000 / 4294967296)] 50) := by
  obtain ⟨lo, hlo⟩ : ∃ lo, N % 4294967296 = lo := ⟨_, rfl⟩
  obtain ⟨hi, hhi⟩ : ∃ hi, N / 4294967296 = hi := ⟨_, rfl⟩
  have ew : IntKind.u32.wrap N = lo := by rw [IntKind.wrap_u32']; exact hlo
  rw [hlo, hhi]
  have l0 : 0 ≤ lo := by omega
  have l1 : lo < 4294967296 := by omega
  have h0 : 0 ≤ hi := by omega
  have h1 : hi < 4294967296 := by omega
  have HF := fun W => fraction_any lo W l0 l1
  clear hlo
  go_enter Try.func36, Try.ntmps36
  go_wp2_with fail
  refine (HF _).mono ?_
  rintro e w1 ⟨rfl, rfl⟩
  go_wp2_with fail

  exact bodyPost_ret (v := .agg #[.int .i64 (hi + 4294967296 - 2208988800), .int .i64 (lo * 1000000000 / 4294967296)]) (by simp [results, Try.results36, go_sem]) rfl ⟨rfl, rfl⟩


end Go.Proofs.Ytaanpoankljblaa.TmE
