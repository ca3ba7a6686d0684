/- Numbers of an era as times. -/
import Derived.Test.YtaanpoankljblaaTmC
namespace Go.Proofs.Ytaanpoankljblaa.TmD
open Go.RowKit Go.Proofs.Ytaanpoankljblaa.RdA Go.Proofs.Ytaanpoankljblaa.FmtA Go.Proofs.Ytaanpoankljblaa.FmtB Go.Proofs.Ytaanpoankljblaa.RdF Go.Proofs.Ytaanpoankljblaa.RdD Go.Proofs.Ytaanpoankljblaa.TmA Go.Proofs.Ytaanpoankljblaa.TmB Go.Proofs.Ytaanpoankljblaa.TmC
set_option linter.unusedVariables false
set_option linter.unusedSimpArgs false

theorem durI_bounds (N : Int) (n0 : 0 ≤ N) (n1 : N < 18446744073709551616) : 0 ≤ durI N ∧ durI N < 4294967296000000001 := by
  unfold durI
  omega
theorem tm92_info : (Try.prog.info? 92).map (·.size) = some 3 := by kernel_rfl
theorem tm92_one (n s : Int) : (tm n s).all (·.oneCell') = true := by kernel_rfl
theorem pl49_info : (Try.prog.info? 49).map (·.size) = some 2 := by kernel_rfl
theorem pl_one (a b : Int) : (#[Value.int .i64 a, .int .i64 b] : Array Value).all (·.oneCell') = true := by kernel_rfl
theorem pl_cells {a b : Int} {w : World} {B : Nat} {T : TypeId} (h : w.heap[B]? = some (.cells #[.int .i64 a, .int .i64 b] T (0, 0))) :
    w.cell? ⟨B, 0, none⟩ = some (.int .i64 a) ∧ w.cell? ⟨B, 1, none⟩ = some (.int .i64 b) := by
  refine ⟨?_, ?_⟩ <;> (unfold World.cell?; rw [h]; rfl)

theorem addE0 (W : World) : Calls Try.prog 100 #[.agg (tm 0 59926608000), .int .i64 0] W fun e w' => e = .returned (.agg (tm 0 59926608000)) ∧ w' = (W.alloc (.cells (tm 0 59926608000) 92)).alloc (.cells (tm 0 59926608000) 92) :=
  add_any 0 59926608000 0 W (by decide) (by decide) (by decide) (by decide) (by decide) (by decide)
theorem addD0 (D : Int) (W : World) (d0 : 0 ≤ D) (d1 : D < 4294967296000000001) : Calls Try.prog 100 #[.agg (tm 0 59926608000), .int .i64 D] W fun e w' => e = .returned (.agg (tm (D % 1000000000) (59926608000 + D / 1000000000))) ∧ w' = (W.alloc (.cells (tm (D % 1000000000) (59926608000 + D / 1000000000)) 92)).alloc (.cells (tm (D % 1000000000) (59926608000 + D / 1000000000)) 92) := by
  have h := add_any 0 59926608000 D W (by decide) (by decide) (by decide) (by decide) (by omega) (by omega)
  rwa [Int.zero_add] at h

set_option maxHeartbeats 1600000 in
theorem time0 (N : Int) (w : World) (n0 : 0 ≤ N) (n1 : N < 18446744073709551616) :
    Calls Try.prog 85 #[.int .u64 N, .int .u8 0] w fun e w' => e = .returned (.agg (tm (durI N % 1000000000) (59926608000 + durI N / 1000000000))) ∧ Below w.heap.size w w' := by
  obtain ⟨d0, d1⟩ := durI_bounds N n0 n1
  have HD := fun W => duration_any N W n0 n1
  obtain ⟨D, hD⟩ : ∃ D, durI N = D := ⟨_, rfl⟩
  rw [hD] at d0 d1 HD ⊢
  have HA := fun W => addD0 D W d0 d1
  have HE := addE0
  unfold tm at HA HE ⊢
  obtain ⟨a, ha⟩ : ∃ a, D % 1000000000 = a := ⟨_, rfl⟩
  obtain ⟨b, hb⟩ : ∃ b, 59926608000 + D / 1000000000 = b := ⟨_, rfl⟩
  rw [ha, hb] at HA ⊢
  clear ha hb hD
  go_enter Try.func85, Try.ntmps85
  go_wp2_with fail
  refine (era0_any _).mono ?_
  rintro e w1 ⟨rfl, rfl⟩
  unfold era0W tm
  go_wp2_with fail
  refine (HE _).mono ?_
  rintro e w1 ⟨rfl, rfl⟩
  go_wp2_with fail
  go_region_with (first | (go_at_call 66; refine (HD _).mono ?_; rintro e w2 ⟨rfl, rfl⟩) | (go_at_call 100; refine (HA _).mono ?_; rintro e w3 ⟨rfl, rfl⟩))
  all_goals
    go_ways
    go_wp2_with fail
    exact bodyPost_ret (v := .agg #[.int .u64 a, .int .i64 b, .pointer none]) (by simp [results, Try.results85, go_sem]) rfl ⟨rfl, by repeat (first | exact Below.refl _ _ | apply Below.drew | (refine Below.alloc ?_ (by simp <;> omega) _))⟩

theorem zzof0 (N : Int) (w : World) (n0 : 0 ≤ N) (n1 : N < 18446744073709551616) :
    Calls Try.prog 60 #[.int .u64 N, .int .u8 0] w fun e w' => e = .returned (.agg (tm (durI N % 1000000000) (59926608000 + durI N / 1000000000))) ∧ Below w.heap.size w w' := by
  obtain ⟨B, hB⟩ : ∃ B, B = w.heap.size := ⟨_, rfl⟩
  have HT := fun W => time0 N W n0 n1
  obtain ⟨a, ha⟩ : ∃ a, durI N % 1000000000 = a := ⟨_, rfl⟩
  obtain ⟨b, hb⟩ : ∃ b, 59926608000 + durI N / 1000000000 = b := ⟨_, rfl⟩
  rw [ha, hb] at HT ⊢
  unfold tm at HT ⊢
  go_enter Try.func60, Try.ntmps60
  go_wp2_with fail
  refine (HT _).mono ?_
  rintro e w1 ⟨rfl, hb1⟩
  have K := (hb1.block _ (by simp)).trans (heap_alloc_new w _)
  have HB := nxt (alc (Below.refl _ w) _) hb1
  rw [← hB] at K HB ⊢
  have HN := Keep.mk hB
  clear hb1 hB
  go_wp2_with (refine wpList_store_row rfl 92 (.tmp 4) (.tmp 7) rfl B #[.int .u64 a, .int .i64 b, .pointer none] rfl rfl 92 _ K tm92_info rfl (tm92_one a b) ?_)
  obtain ⟨c0, c1, c2⟩ := tm_cells (n := a) (s := b) (setRow_heap w1 B _ #[.int .u64 a, .int .i64 b, .pointer none] 92 (0, 0) K)
  have H5 := below_setRow HB (Nat.le_refl B) #[.int .u64 a, .int .i64 b, .pointer none]
  go_wp2_with fail
  exact bodyPost_ret (v := .agg #[.int .u64 a, .int .i64 b, .pointer none]) (by simp [results, Try.results60, go_sem, c0, c1, c2]) rfl ⟨rfl, HN.out ▸ H5⟩

theorem addE1 (W : World) : Calls Try.prog 100 #[.agg (tm 0 59926608000), .int .i64 4294967296000000000] W fun e w' => e = .returned (.agg (tm 0 64221575296)) ∧ w' = (W.alloc (.cells (tm 0 64221575296) 92)).alloc (.cells (tm 0 64221575296) 92) :=
  add_any 0 59926608000 4294967296000000000 W (by decide) (by decide) (by decide) (by decide) (by decide) (by decide)
theorem addD1 (D : Int) (W : World) (d0 : 0 ≤ D) (d1 : D < 4294967296000000001) : Calls Try.prog 100 #[.agg (tm 0 64221575296), .int .i64 D] W fun e w' => e = .returned (.agg (tm (D % 1000000000) (64221575296 + D / 1000000000))) ∧ w' = (W.alloc (.cells (tm (D % 1000000000) (64221575296 + D / 1000000000)) 92)).alloc (.cells (tm (D % 1000000000) (64221575296 + D / 1000000000)) 92) := by
  have h := add_any 0 64221575296 D W (by decide) (by decide) (by decide) (by decide) (by omega) (by omega)
  rwa [Int.zero_add] at h

set_option maxHeartbeats 1600000 in
theorem time1 (N : Int) (w : World) (n0 : 0 ≤ N) (n1 : N < 18446744073709551616) :
    Calls Try.prog 85 #[.int .u64 N, .int .u8 1] w fun e w' => e = .returned (.agg (tm (durI N % 1000000000) (64221575296 + durI N / 1000000000))) ∧ Below w.heap.size w w' := by
  obtain ⟨d0, d1⟩ := durI_bounds N n0 n1
  have HD := fun W => duration_any N W n0 n1
  obtain ⟨D, hD⟩ : ∃ D, durI N = D := ⟨_, rfl⟩
  rw [hD] at d0 d1 HD ⊢
  have HA := fun W => addD1 D W d0 d1
  have HE := addE1
  unfold tm at HA HE ⊢
  obtain ⟨a, ha⟩ : ∃ a, D % 1000000000 = a := ⟨_, rfl⟩
  obtain ⟨b, hb⟩ : ∃ b, 64221575296 + D / 1000000000 = b := ⟨_, rfl⟩
  rw [ha, hb] at HA ⊢
  clear ha hb hD
  go_enter Try.func85, Try.ntmps85
  go_wp2_with fail
  refine (era0_any _).mono ?_
  rintro e w1 ⟨rfl, rfl⟩
  unfold era0W tm
  go_wp2_with fail
  refine (HE _).mono ?_
  rintro e w1 ⟨rfl, rfl⟩
  go_wp2_with fail
  go_region_with (first | (go_at_call 66; refine (HD _).mono ?_; rintro e w2 ⟨rfl, rfl⟩) | (go_at_call 100; refine (HA _).mono ?_; rintro e w3 ⟨rfl, rfl⟩))
  all_goals
    go_ways
    go_wp2_with fail
    exact bodyPost_ret (v := .agg #[.int .u64 a, .int .i64 b, .pointer none]) (by simp [results, Try.results85, go_sem]) rfl ⟨rfl, by repeat (first | exact Below.refl _ _ | apply Below.drew | (refine Below.alloc ?_ (by simp <;> omega) _))⟩

theorem zzof1 (N : Int) (w : World) (n0 : 0 ≤ N) (n1 : N < 18446744073709551616) :
    Calls Try.prog 60 #[.int .u64 N, .int .u8 1] w fun e w' => e = .returned (.agg (tm (durI N % 1000000000) (64221575296 + durI N / 1000000000))) ∧ Below w.heap.size w w' := by
  obtain ⟨B, hB⟩ : ∃ B, B = w.heap.size := ⟨_, rfl⟩
  have HT := fun W => time1 N W n0 n1
  obtain ⟨a, ha⟩ : ∃ a, durI N % 1000000000 = a := ⟨_, rfl⟩
  obtain ⟨b, hb⟩ : ∃ b, 64221575296 + durI N / 1000000000 = b := ⟨_, rfl⟩
  rw [ha, hb] at HT ⊢
  unfold tm at HT ⊢
  go_enter Try.func60, Try.ntmps60
  go_wp2_with fail
  refine (HT _).mono ?_
  rintro e w1 ⟨rfl, hb1⟩
  have K := (hb1.block _ (by simp)).trans (heap_alloc_new w _)
  have HB := nxt (alc (Below.refl _ w) _) hb1
  rw [← hB] at K HB ⊢
  have HN := Keep.mk hB
  clear hb1 hB
  go_wp2_with (refine wpList_store_row rfl 92 (.tmp 4) (.tmp 7) rfl B #[.int .u64 a, .int .i64 b, .pointer none] rfl rfl 92 _ K tm92_info rfl (tm92_one a b) ?_)
  obtain ⟨c0, c1, c2⟩ := tm_cells (n := a) (s := b) (setRow_heap w1 B _ #[.int .u64 a, .int .i64 b, .pointer none] 92 (0, 0) K)
  have H5 := below_setRow HB (Nat.le_refl B) #[.int .u64 a, .int .i64 b, .pointer none]
  go_wp2_with fail
  exact bodyPost_ret (v := .agg #[.int .u64 a, .int .i64 b, .pointer none]) (by simp [results, Try.results60, go_sem, c0, c1, c2]) rfl ⟨rfl, HN.out ▸ H5⟩


end Go.Proofs.Ytaanpoankljblaa.TmD
