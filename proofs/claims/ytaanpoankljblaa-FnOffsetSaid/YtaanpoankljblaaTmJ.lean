/- Times as numbers of 64 bits. -/
import Derived.Test.YtaanpoankljblaaTmH
import Derived.Test.YtaanpoankljblaaTmE
import Derived.Test.YtaanpoankljblaaWorks
import Derived.Laws.BitsLemmas
namespace Go.Proofs.Ytaanpoankljblaa.TmJ
open Go.RowKit Go.Proofs.Ytaanpoankljblaa.RdA Go.Proofs.Ytaanpoankljblaa.FmtA Go.Proofs.Ytaanpoankljblaa.FmtB Go.Proofs.Ytaanpoankljblaa.RdF Go.Proofs.Ytaanpoankljblaa.RdD Go.Proofs.Ytaanpoankljblaa.TmA Go.Proofs.Ytaanpoankljblaa.TmB Go.Proofs.Ytaanpoankljblaa.TmC Go.Proofs.Ytaanpoankljblaa.TmD Go.Proofs.Ytaanpoankljblaa.TmE Go.Proofs.Ytaanpoankljblaa.TmH
set_option linter.unusedVariables false
set_option linter.unusedSimpArgs false

/-- The fraction of 32 bits of nanoseconds, rounded. -/
def fracI (n : Int) : Int := (n * 4294967296 + 500000000) / 1000000000
theorem wraps_u64 (n : Int) (h0 : 0 ≤ n) (h1 : n < 2 ^ 64) : IntKind.u64.wrap n = n := by rw [IntKind.wrap_u64]; omega
theorem or_parts (a b : Int) (a0 : 0 ≤ a) (a1 : a < 4294967296) (b0 : 0 ≤ b) (b1 : b < 4294967296) : bits .or .u64 (a * 4294967296) b = a * 4294967296 + b :=
  bits_join .u64 64 (by decide) wraps_u64 32 (a * 4294967296) b (by omega) (by omega) (by omega) b0 (by omega) (by omega)


set_option maxHeartbeats 3200000 in
set_option maxRecDepth 100000 in
theorem toTs0 (n s : Int) (w : World) (n0 : 0 ≤ n) (n1 : n < 1000000000) (s0 : 59926608000 ≤ s) (s1 : s < 64221575296) :
    Calls Try.prog 88 #[.agg (tm n s)] w fun e w' => e = .returned (.int .u64 ((s - 59926608000) * 4294967296 + fracI n)) ∧ Below w.heap.size w w' := by
  have HG := fun W => getEra_any n s W n0 n1 (by omega) (by omega)
  rw [show (s - 59926608000) / 4294967296 = 0 by omega] at HG
  have HE := addE0
  have HS := fun W => sub_any n s 0 59926608000 W n0 n1 (by decide) (by decide) (by omega) (by omega) (by decide) (by decide) (by omega) (by omega)
  unfold fracI
  obtain ⟨S, hS⟩ : ∃ S, s - 59926608000 = S := ⟨_, rfl⟩
  rw [hS] at HS ⊢
  have S0 : 0 ≤ S := by omega
  have S1 : S < 4294967296 := by omega
  obtain ⟨T, hT⟩ : ∃ T, S * 1000000000 + (n - 0) = T := ⟨_, rfl⟩
  obtain ⟨F, hF⟩ : ∃ F, (n * 4294967296 + 500000000) / 1000000000 = F := ⟨_, rfl⟩
  have F0 : 0 ≤ F := by omega
  have F1 : F < 4294967296 := by omega
  have hO := or_parts S F S0 S1 F0 F1
  have hQ : T / 1000000000 = S := by omega
  have hR : T - S * 1000000000 = n := by omega
  have T0 : 0 ≤ T := by omega
  have T1 : T < 4300000000000000000 := by omega
  rw [hT] at HS
  rw [hF]
  unfold tm at HG HE HS ⊢
  clear hT hS
  go_enter Try.func88, Try.ntmps88
  go_wp2_with fail
  refine (HG _).mono ?_
  rintro e w1 ⟨rfl, rfl⟩
  unfold era0W tm
  go_wp2_with fail
  refine (era0_any _).mono ?_
  rintro e w1 ⟨rfl, rfl⟩
  unfold era0W tm
  go_wp2_with fail
  refine (HE _).mono ?_
  rintro e w1 ⟨rfl, rfl⟩
  go_wp2_with fail
  refine (HS _).mono ?_
  rintro e w1 ⟨rfl, hb⟩
  have HB : Keep (Below w.heap.size w w1) := ⟨nxt (by repeat (first | exact Below.refl _ _ | (refine alc ?_ _))) hb⟩
  clear hb
  go_wp2_with fail
  go_ret
  exact ⟨rfl, HB.out⟩


set_option maxHeartbeats 800000 in
theorem zzts0 (n s : Int) (w : World) (n0 : 0 ≤ n) (n1 : n < 1000000000) (s0 : 59926608000 ≤ s) (s1 : s < 64221575296) :
    Calls Try.prog 63 #[.agg (tm n s)] w fun e w' => e = .returned (.int .u64 ((s - 59926608000) * 4294967296 + fracI n)) ∧ Below w.heap.size w w' := by
  have HT := fun W => toTs0 n s W n0 n1 s0 s1
  obtain ⟨r, hr⟩ : ∃ r, (s - 59926608000) * 4294967296 + fracI n = r := ⟨_, rfl⟩
  rw [hr] at HT ⊢
  unfold tm at HT ⊢
  clear hr
  go_enter Try.func63, Try.ntmps63
  go_wp2_with fail
  refine (HT _).mono ?_
  rintro e w1 ⟨rfl, hb⟩
  have HB := Keep.mk (nxt (alc (Below.refl _ w) _) hb)
  clear hb
  go_wp2_with fail
  go_ret
  exact ⟨rfl, HB.out⟩

theorem toNTP0 (s n : Int) (w : World) (n0 : 0 ≤ n) (n1 : n < 1000000000) (s0 : -2208988800 ≤ s) (s1 : s < 2085978496) :
    Calls Try.prog 40 #[.agg #[.int .i64 s, .int .i64 n]] w fun e w' => e = .returned (.int .u64 ((s - (-2208988800)) * 4294967296 + fracI n)) ∧ Below w.heap.size w w' := by
  have HV := fun W => given_any s n W n0 n1 (by omega) (by omega)
  have HT := fun W => zzts0 n (s + 62135596800) W n0 n1 (by omega) (by omega)
  rw [show s + 62135596800 - 59926608000 = s - (-2208988800) by omega] at HT
  obtain ⟨r, hr⟩ : ∃ r, (s - (-2208988800)) * 4294967296 + fracI n = r := ⟨_, rfl⟩
  rw [hr] at HT ⊢
  obtain ⟨u, hu⟩ : ∃ u, s + 62135596800 = u := ⟨_, rfl⟩
  rw [hu] at HT HV
  unfold tm at HT HV
  clear hr hu
  go_enter Try.func40, Try.ntmps40
  go_wp2_with fail
  refine (HV _).mono ?_
  rintro e w1 ⟨rfl, hb⟩
  have HB := Keep.mk (nxt (alc (Below.refl _ w) _) hb)
  clear hb
  go_wp2_with fail
  refine (HT _).mono ?_
  rintro e w2 ⟨rfl, hb⟩
  have HB2 := Keep.mk (nxt HB.out hb)
  clear hb
  go_wp2_with fail
  go_ret
  exact ⟨rfl, HB2.out⟩

set_option maxHeartbeats 3200000 in
set_option maxRecDepth 100000 in
theorem toTs1 (n s : Int) (w : World) (n0 : 0 ≤ n) (n1 : n < 1000000000) (s0 : 64221575296 ≤ s) (s1 : s < 68516542592) :
    Calls Try.prog 88 #[.agg (tm n s)] w fun e w' => e = .returned (.int .u64 ((s - 64221575296) * 4294967296 + fracI n)) ∧ Below w.heap.size w w' := by
  have HG := fun W => getEra_any n s W n0 n1 (by omega) (by omega)
  rw [show (s - 59926608000) / 4294967296 = 1 by omega] at HG
  have HE := addE1
  have HS := fun W => sub_any n s 0 64221575296 W n0 n1 (by decide) (by decide) (by omega) (by omega) (by decide) (by decide) (by omega) (by omega)
  unfold fracI
  obtain ⟨S, hS⟩ : ∃ S, s - 64221575296 = S := ⟨_, rfl⟩
  rw [hS] at HS ⊢
  have S0 : 0 ≤ S := by omega
  have S1 : S < 4294967296 := by omega
  obtain ⟨T, hT⟩ : ∃ T, S * 1000000000 + (n - 0) = T := ⟨_, rfl⟩
  obtain ⟨F, hF⟩ : ∃ F, (n * 4294967296 + 500000000) / 1000000000 = F := ⟨_, rfl⟩
  have F0 : 0 ≤ F := by omega
  have F1 : F < 4294967296 := by omega
  have hO := or_parts S F S0 S1 F0 F1
  have hQ : T / 1000000000 = S := by omega
  have hR : T - S * 1000000000 = n := by omega
  have T0 : 0 ≤ T := by omega
  have T1 : T < 4300000000000000000 := by omega
  rw [hT] at HS
  rw [hF]
  unfold tm at HG HE HS ⊢
  clear hT hS
  go_enter Try.func88, Try.ntmps88
  go_wp2_with fail
  refine (HG _).mono ?_
  rintro e w1 ⟨rfl, rfl⟩
  unfold era0W tm
  go_wp2_with fail
  refine (era0_any _).mono ?_
  rintro e w1 ⟨rfl, rfl⟩
  unfold era0W tm
  go_wp2_with fail
  refine (HE _).mono ?_
  rintro e w1 ⟨rfl, rfl⟩
  go_wp2_with fail
  refine (HS _).mono ?_
  rintro e w1 ⟨rfl, hb⟩
  have HB : Keep (Below w.heap.size w w1) := ⟨nxt (by repeat (first | exact Below.refl _ _ | (refine alc ?_ _))) hb⟩
  clear hb
  go_wp2_with fail
  go_ret
  exact ⟨rfl, HB.out⟩


set_option maxHeartbeats 800000 in
theorem zzts1 (n s : Int) (w : World) (n0 : 0 ≤ n) (n1 : n < 1000000000) (s0 : 64221575296 ≤ s) (s1 : s < 68516542592) :
    Calls Try.prog 63 #[.agg (tm n s)] w fun e w' => e = .returned (.int .u64 ((s - 64221575296) * 4294967296 + fracI n)) ∧ Below w.heap.size w w' := by
  have HT := fun W => toTs1 n s W n0 n1 s0 s1
  obtain ⟨r, hr⟩ : ∃ r, (s - 64221575296) * 4294967296 + fracI n = r := ⟨_, rfl⟩
  rw [hr] at HT ⊢
  unfold tm at HT ⊢
  clear hr
  go_enter Try.func63, Try.ntmps63
  go_wp2_with fail
  refine (HT _).mono ?_
  rintro e w1 ⟨rfl, hb⟩
  have HB := Keep.mk (nxt (alc (Below.refl _ w) _) hb)
  clear hb
  go_wp2_with fail
  go_ret
  exact ⟨rfl, HB.out⟩

theorem toNTP1 (s n : Int) (w : World) (n0 : 0 ≤ n) (n1 : n < 1000000000) (s0 : 2085978496 ≤ s) (s1 : s < 6380945792) :
    Calls Try.prog 40 #[.agg #[.int .i64 s, .int .i64 n]] w fun e w' => e = .returned (.int .u64 ((s - (2085978496)) * 4294967296 + fracI n)) ∧ Below w.heap.size w w' := by
  have HV := fun W => given_any s n W n0 n1 (by omega) (by omega)
  have HT := fun W => zzts1 n (s + 62135596800) W n0 n1 (by omega) (by omega)
  rw [show s + 62135596800 - 64221575296 = s - (2085978496) by omega] at HT
  obtain ⟨r, hr⟩ : ∃ r, (s - (2085978496)) * 4294967296 + fracI n = r := ⟨_, rfl⟩
  rw [hr] at HT ⊢
  obtain ⟨u, hu⟩ : ∃ u, s + 62135596800 = u := ⟨_, rfl⟩
  rw [hu] at HT HV
  unfold tm at HT HV
  clear hr hu
  go_enter Try.func40, Try.ntmps40
  go_wp2_with fail
  refine (HV _).mono ?_
  rintro e w1 ⟨rfl, hb⟩
  have HB := Keep.mk (nxt (alc (Below.refl _ w) _) hb)
  clear hb
  go_wp2_with fail
  refine (HT _).mono ?_
  rintro e w2 ⟨rfl, hb⟩
  have HB2 := Keep.mk (nxt HB.out hb)
  clear hb
  go_wp2_with fail
  go_ret
  exact ⟨rfl, HB2.out⟩

/-- A time of the reference that is right. -/
def RightB (s n : Int) : Prop := 0 ≤ n ∧ n < 1000000000 ∧ -2208988800 ≤ s ∧ s < 4000000000

theorem right_yes (s n : Int) (w : World) (h : RightB s n) :
    Calls Try.prog 27 #[.agg #[.int .i64 s, .int .i64 n]] w fun e w' => e = .returned (.bool true) ∧ w' = w.alloc (.cells #[.int .i64 s, .int .i64 n] 50) := by
  obtain ⟨h0, h1, h2, h3⟩ := h
  go_enter Try.func27, Try.ntmps27
  go_wp2_with fail
  go_ret
  exact ⟨rfl, rfl⟩

theorem right_no (s n : Int) (w : World) (h : ¬ RightB s n) :
    Calls Try.prog 27 #[.agg #[.int .i64 s, .int .i64 n]] w fun e w' => e = .returned (.bool false) ∧ w' = w.alloc (.cells #[.int .i64 s, .int .i64 n] 50) := by
  unfold RightB at h
  by_cases h0 : 0 ≤ n
  · by_cases h1 : n < 1000000000
    · by_cases h2 : -2208988800 ≤ s
      · have h3 : ¬ s < 4000000000 := fun h3 => h ⟨h0, h1, h2, h3⟩
        clear h
        go_enter Try.func27, Try.ntmps27
        go_wp2_with fail
        go_ret
        exact ⟨rfl, rfl⟩
      · clear h
        go_enter Try.func27, Try.ntmps27
        go_wp2_with fail
        go_ret
        exact ⟨rfl, rfl⟩
    · clear h
      go_enter Try.func27, Try.ntmps27
      go_wp2_with fail
      go_ret
      exact ⟨rfl, rfl⟩
  · clear h
    go_enter Try.func27, Try.ntmps27
    go_wp2_with fail
    go_ret
    exact ⟨rfl, rfl⟩

theorem secs_any (s n x : Int) (w : World) (hx : (s + 2208988800) % 4294967296 = x) (s0 : -2208988800 ≤ s) (s1 : s < 4000000000) :
    Calls Try.prog 64 #[.agg #[.int .i64 s, .int .i64 n]] w fun e w' => e = .returned (.int .u32 x) ∧ w' = w.alloc (.cells #[.int .i64 s, .int .i64 n] 50) := by
  have e1 : IntKind.u32.wrap (s + 2208988800) = x := by rw [IntKind.wrap_u32']; exact hx
  go_enter Try.func64, Try.ntmps64
  go_wp2_with fail
  go_ret
  exact ⟨rfl, rfl⟩

theorem carry_any (s n x : Int) (w : World) (hx : (s + 2208988800) % 4294967296 = x) (s0 : -2208988800 ≤ s) (s1 : s < 4000000000) :
    Calls Try.prog 41 #[.int .u32 x, .agg #[.int .i64 s, .int .i64 n]] w fun e w' => e = .returned (.int .i64 0) ∧ w' = (w.alloc (.cells #[.int .i64 s, .int .i64 n] 50)).alloc (.cells #[.int .i64 s, .int .i64 n] 50) := by
  have HS := fun W => secs_any s n x W hx s0 s1
  clear hx
  go_enter Try.func41, Try.ntmps41
  go_wp2_with fail
  refine (HS _).mono ?_
  rintro e w1 ⟨rfl, rfl⟩
  go_wp2_with fail
  go_ret
  exact ⟨rfl, rfl⟩

theorem specEra_any (s n E : Int) (w : World) (hE : (s + 2208988800) / 4294967296 = E) (s0 : -2208988800 ≤ s) (s1 : s < 4000000000) :
    Calls Try.prog 42 #[.agg #[.int .i64 s, .int .i64 n]] w fun e w' => e = .returned (.int .i64 E) ∧ w' = w.alloc (.cells #[.int .i64 s, .int .i64 n] 50) := by
  have E0 : 0 ≤ E := by omega
  have E1 : E ≤ 1 := by omega
  go_enter Try.func42, Try.ntmps42
  go_wp2_with fail
  go_ret
  exact ⟨rfl, rfl⟩

end Go.Proofs.Ytaanpoankljblaa.TmJ
