/- FnPivot: the era that is taken for a number. -/
import Derived.Test.YtaanpoankljblaaTmE
import Derived.Test.YtaanpoankljblaaWorks
namespace Go.Proofs.Ytaanpoankljblaa.TmG
open Go.RowKit Go.Proofs.Ytaanpoankljblaa.RdA Go.Proofs.Ytaanpoankljblaa.FmtA Go.Proofs.Ytaanpoankljblaa.FmtB Go.Proofs.Ytaanpoankljblaa.RdF Go.Proofs.Ytaanpoankljblaa.RdD Go.Proofs.Ytaanpoankljblaa.TmA Go.Proofs.Ytaanpoankljblaa.TmB Go.Proofs.Ytaanpoankljblaa.TmC Go.Proofs.Ytaanpoankljblaa.TmD Go.Proofs.Ytaanpoankljblaa.TmE
set_option linter.unusedVariables false
set_option linter.unusedSimpArgs false

/-- The world behind making the beginning of era 1. -/
def era1W (w : World) : World := ((era0W (w.alloc (.cells (tm 0 64221575296) 92))).alloc (.cells (tm 0 64221575296) 92)).alloc (.cells (tm 0 64221575296) 92)

theorem era1_any (w : World) :
    Calls Try.prog 101 #[] w fun e w' => e = .returned (.agg (tm 0 64221575296)) ∧ w' = era1W w := by
  have HE := addE1
  unfold era1W era0W tm
  unfold tm at HE
  go_enter Try.func101, Try.ntmps101
  go_wp2_with fail
  refine (era0_any _).mono ?_
  rintro e w1 ⟨rfl, rfl⟩
  unfold era0W tm
  go_wp2_with fail
  refine (HE _).mono ?_
  rintro e w1 ⟨rfl, rfl⟩
  go_wp2_with fail
  exact bodyPost_ret (v := .agg #[.int .u64 0, .int .i64 64221575296, .pointer none]) (by simp [results, Try.results101, go_sem]) rfl ⟨rfl, rfl⟩

theorem infer_any (N : Int) (E : Int) (w : World) (h : E = 1 ∧ N < 9487534653230284800 ∨ E = 0 ∧ 9487534653230284800 ≤ N) :
    Calls Try.prog 86 #[.int .u64 N] w fun e w' => e = .returned (.int .u8 E) ∧ w' = w := by
  rcases h with ⟨rfl, h⟩ | ⟨rfl, h⟩
  all_goals
    go_enter Try.func86, Try.ntmps86
    go_wp2_with fail
    go_ret
    exact ⟨rfl, rfl⟩

theorem zzera_any (N : Int) (E : Int) (w : World) (h : E = 1 ∧ N < 9487534653230284800 ∨ E = 0 ∧ 9487534653230284800 ≤ N) :
    Calls Try.prog 61 #[.int .u64 N] w fun e w' => e = .returned (.int .u8 E) ∧ w' = w := by
  have H := fun W => infer_any N E W h
  go_enter Try.func61, Try.ntmps61
  go_wp2_with fail
  refine (H _).mono ?_
  rintro e w1 ⟨rfl, rfl⟩
  go_wp2_with fail
  go_ret
  exact ⟨rfl, rfl⟩

theorem era_any (N : Int) (E : Int) (w : World) (h : E = 1 ∧ N < 9487534653230284800 ∨ E = 0 ∧ 9487534653230284800 ≤ N) :
    Calls Try.prog 38 #[.int .u64 N] w fun e w' => e = .returned (.int .i64 E) ∧ w' = w := by
  have H := fun W => zzera_any N E W h
  go_enter Try.func38, Try.ntmps38
  go_wp2_with fail
  refine (H _).mono ?_
  rintro e w1 ⟨rfl, rfl⟩
  have e0 : 0 ≤ E := by omega
  have e1 : E ≤ 1 := by omega
  go_wp2_with fail
  go_ret
  exact ⟨rfl, rfl⟩


set_option maxHeartbeats 1600000 in
theorem timeV0 (N : Int) (w : World) (n0 : 0 ≤ N) (n1 : N < 18446744073709551616) (h : 9487534653230284800 ≤ N) :
    Calls Try.prog 87 #[.int .u64 N] w fun e w' => e = .returned (.agg (tm (durI N % 1000000000) (59926608000 + durI N / 1000000000))) ∧ Below w.heap.size w w' := by
  obtain ⟨d0, d1⟩ := durI_bounds N n0 n1
  have HI := fun W => infer_any N 0 W (.inr ⟨rfl, h⟩)
  have HD := fun W => duration_any N W n0 n1
  obtain ⟨D, hD⟩ : ∃ D, durI N = D := ⟨_, rfl⟩
  rw [hD] at d0 d1 HD ⊢
  have HA := fun W => addD0 D W d0 d1
  unfold tm at HA ⊢
  obtain ⟨a, ha⟩ : ∃ a, D % 1000000000 = a := ⟨_, rfl⟩
  obtain ⟨b, hb⟩ : ∃ b, 59926608000 + D / 1000000000 = b := ⟨_, rfl⟩
  rw [ha, hb] at HA ⊢
  clear ha hb hD h
  go_enter Try.func87, Try.ntmps87
  go_wp2_with fail
  refine (HI _).mono ?_
  rintro e w1 ⟨rfl, rfl⟩
  go_wp2_with fail
  refine (era0_any _).mono ?_
  rintro e w1 ⟨rfl, rfl⟩
  unfold era0W tm
  go_wp2_with fail
  refine (HD _).mono ?_
  rintro e w1 ⟨rfl, rfl⟩
  go_wp2_with fail
  refine (HA _).mono ?_
  rintro e w1 ⟨rfl, rfl⟩
  go_wp2_with fail
  exact bodyPost_ret (v := .agg #[.int .u64 a, .int .i64 b, .pointer none]) (by simp [results, Try.results87, go_sem]) rfl ⟨rfl, by repeat (first | exact Below.refl _ _ | apply Below.drew | (refine Below.alloc ?_ (by simp <;> omega) _))⟩

theorem zztime0 (N : Int) (w : World) (n0 : 0 ≤ N) (n1 : N < 18446744073709551616) (h : 9487534653230284800 ≤ N) :
    Calls Try.prog 62 #[.int .u64 N] w fun e w' => e = .returned (.agg (tm (durI N % 1000000000) (59926608000 + durI N / 1000000000))) ∧ Below w.heap.size w w' := by
  obtain ⟨B, hB⟩ : ∃ B, B = w.heap.size := ⟨_, rfl⟩
  have HT := fun W => timeV0 N W n0 n1 h
  obtain ⟨a, ha⟩ : ∃ a, durI N % 1000000000 = a := ⟨_, rfl⟩
  obtain ⟨b, hb⟩ : ∃ b, 59926608000 + durI N / 1000000000 = b := ⟨_, rfl⟩
  rw [ha, hb] at HT ⊢
  unfold tm at HT ⊢
  clear ha hb
  go_enter Try.func62, Try.ntmps62
  go_wp2_with fail
  refine (HT _).mono ?_
  rintro e w1 ⟨rfl, hb1⟩
  have K := (hb1.block _ (by simp)).trans (heap_alloc_new w _)
  have HB := nxt (alc (Below.refl _ w) _) hb1
  rw [← hB] at K HB ⊢
  have HN := Keep.mk hB
  clear hb1 hB
  go_wp2_with (refine wpList_store_row rfl 92 (.tmp 2) (.tmp 4) rfl B #[.int .u64 a, .int .i64 b, .pointer none] rfl rfl 92 _ K tm92_info rfl (tm92_one a b) ?_)
  obtain ⟨c0, c1, c2⟩ := tm_cells (n := a) (s := b) (setRow_heap w1 B _ #[.int .u64 a, .int .i64 b, .pointer none] 92 (0, 0) K)
  have H5 := below_setRow HB (Nat.le_refl B) #[.int .u64 a, .int .i64 b, .pointer none]
  go_wp2_with fail
  exact bodyPost_ret (v := .agg #[.int .u64 a, .int .i64 b, .pointer none]) (by simp [results, Try.results62, go_sem, c0, c1, c2]) rfl ⟨rfl, HN.out ▸ H5⟩

theorem fromNTP0 (N : Int) (w : World) (n0 : 0 ≤ N) (n1 : N < 18446744073709551616) (h : 9487534653230284800 ≤ N) :
    Calls Try.prog 39 #[.int .u64 N] w fun e w' => e = .returned (.agg #[.int .i64 (-2208988800 + durI N / 1000000000), .int .i64 (durI N % 1000000000)]) ∧ Below w.heap.size w w' := by
  obtain ⟨d0, d1⟩ := durI_bounds N n0 n1
  have HT := fun W => zztime0 N W n0 n1 h
  have HP := fun W => plain_any (durI N % 1000000000) (59926608000 + durI N / 1000000000) W (by omega) (by omega) (by omega) (by omega)
  rw [show 59926608000 + durI N / 1000000000 + -62135596800 = -2208988800 + durI N / 1000000000 by omega] at HP
  obtain ⟨a, ha⟩ : ∃ a, durI N % 1000000000 = a := ⟨_, rfl⟩
  obtain ⟨b, hb⟩ : ∃ b, 59926608000 + durI N / 1000000000 = b := ⟨_, rfl⟩
  obtain ⟨c, hc⟩ : ∃ c, -2208988800 + durI N / 1000000000 = c := ⟨_, rfl⟩
  rw [ha, hb] at HT HP
  rw [hc] at HP ⊢
  rw [ha] at ⊢
  unfold tm at HT HP
  clear ha hb hc
  obtain ⟨B, hB⟩ : ∃ B, B = w.heap.size := ⟨_, rfl⟩
  go_enter Try.func39, Try.ntmps39
  go_wp2_with fail
  refine (HT _).mono ?_
  rintro e w1 ⟨rfl, hb1⟩
  have K := (hb1.block _ (by simp)).trans (heap_alloc_new w _)
  have HB := nxt (alc (Below.refl _ w) _) hb1
  clear hb1
  go_wp2_with fail
  refine (HP _).mono ?_
  rintro e w2 ⟨rfl, hb2⟩
  have K2 := (hb2.block _ (Array.getElem?_eq_some_iff.1 K).1).trans K
  have HB2 := nxt HB hb2
  rw [← hB] at K2 HB2 ⊢
  have HN := Keep.mk hB
  clear hb2 hB K HB
  go_wp2_with (refine wpList_store_row rfl 49 (.tmp 2) (.tmp 5) rfl B #[.int .i64 c, .int .i64 a] rfl rfl 49 _ K2 pl49_info rfl (pl_one c a) ?_)
  obtain ⟨c0, c1⟩ := pl_cells (setRow_heap w2 B _ #[.int .i64 c, .int .i64 a] 49 (0, 0) K2)
  have H5 := below_setRow HB2 (Nat.le_refl B) #[.int .i64 c, .int .i64 a]
  go_wp2_with fail
  exact bodyPost_ret (v := .agg #[.int .i64 c, .int .i64 a]) (by simp [results, Try.results39, go_sem, c0, c1]) rfl ⟨rfl, HN.out ▸ H5⟩

set_option maxHeartbeats 800000 in
theorem law_0 (N : Int) (w : World) (n0 : 0 ≤ N) (n1 : N < 18446744073709551616) (h : 9487534653230284800 ≤ N) :
    Calls Try.prog 9 #[.int .u64 N] w fun e w' => e = .returned (.bool true) ∧ Below w.heap.size w w' := by
  have HI := fun W => era_any N 0 W (.inr ⟨rfl, h⟩)
  have HF := fun W => fromNTP0 N W n0 n1 h
  have HO := fun W => ofEra0 N W n0 n1
  obtain ⟨c, hc⟩ : ∃ c, -2208988800 + durI N / 1000000000 = c := ⟨_, rfl⟩
  obtain ⟨d, hd⟩ : ∃ d, durI N % 1000000000 = d := ⟨_, rfl⟩
  rw [hc, hd] at HF HO
  clear hc hd h
  go_enter Try.func9, Try.ntmps9
  go_wp2_with fail
  refine (HI _).mono ?_
  rintro e w1 ⟨rfl, rfl⟩
  go_wp2_with fail
  refine (HF _).mono ?_
  rintro e w1 ⟨rfl, hb1⟩
  have HB1 := Keep.mk (nxt (Below.refl _ _) hb1)
  clear hb1
  go_wp2_with fail
  refine (moment_any _ _ _).mono ?_
  rintro e w2 ⟨rfl, rfl⟩
  go_wp2_with fail
  refine (HO _).mono ?_
  rintro e w2 ⟨rfl, hb2⟩
  have HB2 := Keep.mk (nxt (alc (alc HB1.out _) _) hb2)
  clear hb2
  go_wp2_with fail
  refine (moment_any _ _ _).mono ?_
  rintro e w2 ⟨rfl, rfl⟩
  go_wp2_with fail
  refine (Works.works_any _).mono ?_
  rintro e w3 ⟨rfl, hb3⟩
  have HB3 := Keep.mk (nxt (alc (alc HB2.out _) _) hb3)
  clear hb3
  go_wp2_with fail
  go_ret
  exact ⟨rfl, HB3.out⟩

set_option maxHeartbeats 1600000 in
theorem timeV1 (N : Int) (w : World) (n0 : 0 ≤ N) (n1 : N < 18446744073709551616) (h : N < 9487534653230284800) :
    Calls Try.prog 87 #[.int .u64 N] w fun e w' => e = .returned (.agg (tm (durI N % 1000000000) (64221575296 + durI N / 1000000000))) ∧ Below w.heap.size w w' := by
  obtain ⟨d0, d1⟩ := durI_bounds N n0 n1
  have HI := fun W => infer_any N 1 W (.inl ⟨rfl, h⟩)
  have HD := fun W => duration_any N W n0 n1
  obtain ⟨D, hD⟩ : ∃ D, durI N = D := ⟨_, rfl⟩
  rw [hD] at d0 d1 HD ⊢
  have HA := fun W => addD1 D W d0 d1
  unfold tm at HA ⊢
  obtain ⟨a, ha⟩ : ∃ a, D % 1000000000 = a := ⟨_, rfl⟩
  obtain ⟨b, hb⟩ : ∃ b, 64221575296 + D / 1000000000 = b := ⟨_, rfl⟩
  rw [ha, hb] at HA ⊢
  clear ha hb hD h
  go_enter Try.func87, Try.ntmps87
  go_wp2_with fail
  refine (HI _).mono ?_
  rintro e w1 ⟨rfl, rfl⟩
  go_wp2_with fail
  refine (era1_any _).mono ?_
  rintro e w1 ⟨rfl, rfl⟩
  unfold era1W
  unfold era0W tm
  go_wp2_with fail
  refine (HD _).mono ?_
  rintro e w1 ⟨rfl, rfl⟩
  go_wp2_with fail
  refine (HA _).mono ?_
  rintro e w1 ⟨rfl, rfl⟩
  go_wp2_with fail
  exact bodyPost_ret (v := .agg #[.int .u64 a, .int .i64 b, .pointer none]) (by simp [results, Try.results87, go_sem]) rfl ⟨rfl, by repeat (first | exact Below.refl _ _ | apply Below.drew | (refine Below.alloc ?_ (by simp <;> omega) _))⟩

theorem zztime1 (N : Int) (w : World) (n0 : 0 ≤ N) (n1 : N < 18446744073709551616) (h : N < 9487534653230284800) :
    Calls Try.prog 62 #[.int .u64 N] w fun e w' => e = .returned (.agg (tm (durI N % 1000000000) (64221575296 + durI N / 1000000000))) ∧ Below w.heap.size w w' := by
  obtain ⟨B, hB⟩ : ∃ B, B = w.heap.size := ⟨_, rfl⟩
  have HT := fun W => timeV1 N W n0 n1 h
  obtain ⟨a, ha⟩ : ∃ a, durI N % 1000000000 = a := ⟨_, rfl⟩
  obtain ⟨b, hb⟩ : ∃ b, 64221575296 + durI N / 1000000000 = b := ⟨_, rfl⟩
  rw [ha, hb] at HT ⊢
  unfold tm at HT ⊢
  clear ha hb
  go_enter Try.func62, Try.ntmps62
  go_wp2_with fail
  refine (HT _).mono ?_
  rintro e w1 ⟨rfl, hb1⟩
  have K := (hb1.block _ (by simp)).trans (heap_alloc_new w _)
  have HB := nxt (alc (Below.refl _ w) _) hb1
  rw [← hB] at K HB ⊢
  have HN := Keep.mk hB
  clear hb1 hB
  go_wp2_with (refine wpList_store_row rfl 92 (.tmp 2) (.tmp 4) rfl B #[.int .u64 a, .int .i64 b, .pointer none] rfl rfl 92 _ K tm92_info rfl (tm92_one a b) ?_)
  obtain ⟨c0, c1, c2⟩ := tm_cells (n := a) (s := b) (setRow_heap w1 B _ #[.int .u64 a, .int .i64 b, .pointer none] 92 (0, 0) K)
  have H5 := below_setRow HB (Nat.le_refl B) #[.int .u64 a, .int .i64 b, .pointer none]
  go_wp2_with fail
  exact bodyPost_ret (v := .agg #[.int .u64 a, .int .i64 b, .pointer none]) (by simp [results, Try.results62, go_sem, c0, c1, c2]) rfl ⟨rfl, HN.out ▸ H5⟩

theorem fromNTP1 (N : Int) (w : World) (n0 : 0 ≤ N) (n1 : N < 18446744073709551616) (h : N < 9487534653230284800) :
    Calls Try.prog 39 #[.int .u64 N] w fun e w' => e = .returned (.agg #[.int .i64 (2085978496 + durI N / 1000000000), .int .i64 (durI N % 1000000000)]) ∧ Below w.heap.size w w' := by
  obtain ⟨d0, d1⟩ := durI_bounds N n0 n1
  have HT := fun W => zztime1 N W n0 n1 h
  have HP := fun W => plain_any (durI N % 1000000000) (64221575296 + durI N / 1000000000) W (by omega) (by omega) (by omega) (by omega)
  rw [show 64221575296 + durI N / 1000000000 + -62135596800 = 2085978496 + durI N / 1000000000 by omega] at HP
  obtain ⟨a, ha⟩ : ∃ a, durI N % 1000000000 = a := ⟨_, rfl⟩
  obtain ⟨b, hb⟩ : ∃ b, 64221575296 + durI N / 1000000000 = b := ⟨_, rfl⟩
  obtain ⟨c, hc⟩ : ∃ c, 2085978496 + durI N / 1000000000 = c := ⟨_, rfl⟩
  rw [ha, hb] at HT HP
  rw [hc] at HP ⊢
  rw [ha] at ⊢
  unfold tm at HT HP
  clear ha hb hc
  obtain ⟨B, hB⟩ : ∃ B, B = w.heap.size := ⟨_, rfl⟩
  go_enter Try.func39, Try.ntmps39
  go_wp2_with fail
  refine (HT _).mono ?_
  rintro e w1 ⟨rfl, hb1⟩
  have K := (hb1.block _ (by simp)).trans (heap_alloc_new w _)
  have HB := nxt (alc (Below.refl _ w) _) hb1
  clear hb1
  go_wp2_with fail
  refine (HP _).mono ?_
  rintro e w2 ⟨rfl, hb2⟩
  have K2 := (hb2.block _ (Array.getElem?_eq_some_iff.1 K).1).trans K
  have HB2 := nxt HB hb2
  rw [← hB] at K2 HB2 ⊢
  have HN := Keep.mk hB
  clear hb2 hB K HB
  go_wp2_with (refine wpList_store_row rfl 49 (.tmp 2) (.tmp 5) rfl B #[.int .i64 c, .int .i64 a] rfl rfl 49 _ K2 pl49_info rfl (pl_one c a) ?_)
  obtain ⟨c0, c1⟩ := pl_cells (setRow_heap w2 B _ #[.int .i64 c, .int .i64 a] 49 (0, 0) K2)
  have H5 := below_setRow HB2 (Nat.le_refl B) #[.int .i64 c, .int .i64 a]
  go_wp2_with fail
  exact bodyPost_ret (v := .agg #[.int .i64 c, .int .i64 a]) (by simp [results, Try.results39, go_sem, c0, c1]) rfl ⟨rfl, HN.out ▸ H5⟩

set_option maxHeartbeats 800000 in
theorem law_1 (N : Int) (w : World) (n0 : 0 ≤ N) (n1 : N < 18446744073709551616) (h : N < 9487534653230284800) :
    Calls Try.prog 9 #[.int .u64 N] w fun e w' => e = .returned (.bool true) ∧ Below w.heap.size w w' := by
  have HI := fun W => era_any N 1 W (.inl ⟨rfl, h⟩)
  have HF := fun W => fromNTP1 N W n0 n1 h
  have HO := fun W => ofEra1 N W n0 n1
  obtain ⟨c, hc⟩ : ∃ c, 2085978496 + durI N / 1000000000 = c := ⟨_, rfl⟩
  obtain ⟨d, hd⟩ : ∃ d, durI N % 1000000000 = d := ⟨_, rfl⟩
  rw [hc, hd] at HF HO
  clear hc hd h
  go_enter Try.func9, Try.ntmps9
  go_wp2_with fail
  refine (HI _).mono ?_
  rintro e w1 ⟨rfl, rfl⟩
  go_wp2_with fail
  refine (HF _).mono ?_
  rintro e w1 ⟨rfl, hb1⟩
  have HB1 := Keep.mk (nxt (Below.refl _ _) hb1)
  clear hb1
  go_wp2_with fail
  refine (moment_any _ _ _).mono ?_
  rintro e w2 ⟨rfl, rfl⟩
  go_wp2_with fail
  refine (HO _).mono ?_
  rintro e w2 ⟨rfl, hb2⟩
  have HB2 := Keep.mk (nxt (alc (alc HB1.out _) _) hb2)
  clear hb2
  go_wp2_with fail
  refine (moment_any _ _ _).mono ?_
  rintro e w2 ⟨rfl, rfl⟩
  go_wp2_with fail
  refine (Works.works_any _).mono ?_
  rintro e w3 ⟨rfl, hb3⟩
  have HB3 := Keep.mk (nxt (alc (alc HB2.out _) _) hb3)
  clear hb3
  go_wp2_with fail
  go_ret
  exact ⟨rfl, HB3.out⟩

end Go.Proofs.Ytaanpoankljblaa.TmG
