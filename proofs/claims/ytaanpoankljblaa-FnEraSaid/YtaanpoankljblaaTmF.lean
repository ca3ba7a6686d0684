/- FnEra: every number, every era. -/
import Derived.Test.YtaanpoankljblaaTmE
import Derived.Test.YtaanpoankljblaaWorks
namespace Go.Proofs.Ytaanpoankljblaa.TmF
open Go.RowKit Go.Proofs.Ytaanpoankljblaa.RdA Go.Proofs.Ytaanpoankljblaa.FmtA Go.Proofs.Ytaanpoankljblaa.FmtB Go.Proofs.Ytaanpoankljblaa.RdF Go.Proofs.Ytaanpoankljblaa.RdD Go.Proofs.Ytaanpoankljblaa.TmA Go.Proofs.Ytaanpoankljblaa.TmB Go.Proofs.Ytaanpoankljblaa.TmC Go.Proofs.Ytaanpoankljblaa.TmD Go.Proofs.Ytaanpoankljblaa.TmE
set_option linter.unusedVariables false
set_option linter.unusedSimpArgs false

theorem law_out (N E : Int) (w : World) (h : E < 0 ∨ 1 < E) :
    Calls Try.prog 8 #[.int .u64 N, .int .i64 E] w fun e w' => e = .returned (.bool true) ∧ Below w.heap.size w w' := by
  rcases h with h | h
  all_goals
    go_enter Try.func8, Try.ntmps8
    go_wp2_with fail
    refine (Works.works_any _).mono ?_
    rintro e w1 ⟨rfl, hb1⟩
    go_wp2_with fail
    go_ret
    exact ⟨rfl, hb1⟩


set_option maxHeartbeats 800000 in
theorem law_0 (N : Int) (w : World) (n0 : 0 ≤ N) (n1 : N < 18446744073709551616) :
    Calls Try.prog 8 #[.int .u64 N, .int .i64 0] w fun e w' => e = .returned (.bool true) ∧ Below w.heap.size w w' := by
  obtain ⟨d0, d1⟩ := durI_bounds N n0 n1
  have HO := fun W => ofEra0 N W n0 n1
  have HS := fun W => specOf0 N W n0 n1
  have HW := fun W => between_any (N / 4294967296 - 2208988800) (N % 4294967296 * 1000000000 / 4294967296) (-2208988800 + durI N / 1000000000) (durI N % 1000000000) W (by omega) (by omega) (by omega) (by omega) (by omega) (by omega) (by omega) (by omega) (by omega) (by omega)
  have hr : 0 ≤ (-2208988800 + durI N / 1000000000 - (N / 4294967296 - 2208988800)) * 1000000000 + (durI N % 1000000000 - N % 4294967296 * 1000000000 / 4294967296) ∧ (-2208988800 + durI N / 1000000000 - (N / 4294967296 - 2208988800)) * 1000000000 + (durI N % 1000000000 - N % 4294967296 * 1000000000 / 4294967296) ≤ 1 := by
    have hd : durI N = N / 4294967296 * 1000000000 + (N % 4294967296 * 1000000000 / 4294967296 + (N % 4294967296 * 1000000000 % 4294967296 + 2147483648) / 4294967296) := rfl
    omega
  obtain ⟨x, hx⟩ : ∃ x, (-2208988800 + durI N / 1000000000 - (N / 4294967296 - 2208988800)) * 1000000000 + (durI N % 1000000000 - N % 4294967296 * 1000000000 / 4294967296) = x := ⟨_, rfl⟩
  rw [hx] at HW hr
  obtain ⟨x0, x1⟩ := hr
  have HR := fun W => near_any x 0 W (by omega) (by omega) (by omega) (by omega) (by omega) (by omega)
  clear hx
  obtain ⟨a, ha⟩ : ∃ a, N / 4294967296 - 2208988800 = a := ⟨_, rfl⟩
  obtain ⟨b, hb⟩ : ∃ b, N % 4294967296 * 1000000000 / 4294967296 = b := ⟨_, rfl⟩
  obtain ⟨c, hc⟩ : ∃ c, -2208988800 + durI N / 1000000000 = c := ⟨_, rfl⟩
  obtain ⟨d, hd⟩ : ∃ d, durI N % 1000000000 = d := ⟨_, rfl⟩
  rw [hc, hd] at HO
  rw [ha, hb] at HS
  rw [ha, hb, hc, hd] at HW
  clear ha hb hc hd d0 d1
  go_enter Try.func8, Try.ntmps8
  go_wp2_with fail
  refine (HO _).mono ?_
  rintro e w1 ⟨rfl, hb1⟩
  have HB1 := Keep.mk (nxt (Below.refl _ w) hb1)
  clear hb1
  go_wp2_with fail
  refine (moment_any _ _ _).mono ?_
  rintro e w2 ⟨rfl, rfl⟩
  go_wp2_with fail
  refine (HS _).mono ?_
  rintro e w2 ⟨rfl, rfl⟩
  go_wp2_with fail
  refine (HW _).mono ?_
  rintro e w2 ⟨rfl, rfl⟩
  go_wp2_with fail
  refine (HR _).mono ?_
  rintro e w2 ⟨rfl, rfl⟩
  go_wp2_with fail
  refine (Works.works_any _).mono ?_
  rintro e w3 ⟨rfl, hb3⟩
  have HB3 : Keep (Below w.heap.size w w3) := ⟨nxt (by repeat (first | exact HB1.out | (refine alc ?_ _))) hb3⟩
  clear hb3
  go_wp2_with fail
  go_ret
  exact ⟨rfl, HB3.out⟩

set_option maxHeartbeats 800000 in
theorem law_1 (N : Int) (w : World) (n0 : 0 ≤ N) (n1 : N < 18446744073709551616) :
    Calls Try.prog 8 #[.int .u64 N, .int .i64 1] w fun e w' => e = .returned (.bool true) ∧ Below w.heap.size w w' := by
  obtain ⟨d0, d1⟩ := durI_bounds N n0 n1
  have HO := fun W => ofEra1 N W n0 n1
  have HS := fun W => specOf1 N W n0 n1
  have HW := fun W => between_any (N / 4294967296 + 4294967296 - 2208988800) (N % 4294967296 * 1000000000 / 4294967296) (2085978496 + durI N / 1000000000) (durI N % 1000000000) W (by omega) (by omega) (by omega) (by omega) (by omega) (by omega) (by omega) (by omega) (by omega) (by omega)
  have hr : 0 ≤ (2085978496 + durI N / 1000000000 - (N / 4294967296 + 4294967296 - 2208988800)) * 1000000000 + (durI N % 1000000000 - N % 4294967296 * 1000000000 / 4294967296) ∧ (2085978496 + durI N / 1000000000 - (N / 4294967296 + 4294967296 - 2208988800)) * 1000000000 + (durI N % 1000000000 - N % 4294967296 * 1000000000 / 4294967296) ≤ 1 := by
    have hd : durI N = N / 4294967296 * 1000000000 + (N % 4294967296 * 1000000000 / 4294967296 + (N % 4294967296 * 1000000000 % 4294967296 + 2147483648) / 4294967296) := rfl
    omega
  obtain ⟨x, hx⟩ : ∃ x, (2085978496 + durI N / 1000000000 - (N / 4294967296 + 4294967296 - 2208988800)) * 1000000000 + (durI N % 1000000000 - N % 4294967296 * 1000000000 / 4294967296) = x := ⟨_, rfl⟩
  rw [hx] at HW hr
  obtain ⟨x0, x1⟩ := hr
  have HR := fun W => near_any x 0 W (by omega) (by omega) (by omega) (by omega) (by omega) (by omega)
  clear hx
  obtain ⟨a, ha⟩ : ∃ a, N / 4294967296 + 4294967296 - 2208988800 = a := ⟨_, rfl⟩
  obtain ⟨b, hb⟩ : ∃ b, N % 4294967296 * 1000000000 / 4294967296 = b := ⟨_, rfl⟩
  obtain ⟨c, hc⟩ : ∃ c, 2085978496 + durI N / 1000000000 = c := ⟨_, rfl⟩
  obtain ⟨d, hd⟩ : ∃ d, durI N % 1000000000 = d := ⟨_, rfl⟩
  rw [hc, hd] at HO
  rw [ha, hb] at HS
  rw [ha, hb, hc, hd] at HW
  clear ha hb hc hd d0 d1
  go_enter Try.func8, Try.ntmps8
  go_wp2_with fail
  refine (HO _).mono ?_
  rintro e w1 ⟨rfl, hb1⟩
  have HB1 := Keep.mk (nxt (Below.refl _ w) hb1)
  clear hb1
  go_wp2_with fail
  refine (moment_any _ _ _).mono ?_
  rintro e w2 ⟨rfl, rfl⟩
  go_wp2_with fail
  refine (HS _).mono ?_
  rintro e w2 ⟨rfl, rfl⟩
  go_wp2_with fail
  refine (HW _).mono ?_
  rintro e w2 ⟨rfl, rfl⟩
  go_wp2_with fail
  refine (HR _).mono ?_
  rintro e w2 ⟨rfl, rfl⟩
  go_wp2_with fail
  refine (Works.works_any _).mono ?_
  rintro e w3 ⟨rfl, hb3⟩
  have HB3 : Keep (Below w.heap.size w w3) := ⟨nxt (by repeat (first | exact HB1.out | (refine alc ?_ _))) hb3⟩
  clear hb3
  go_wp2_with fail
  go_ret
  exact ⟨rfl, HB3.out⟩

end Go.Proofs.Ytaanpoankljblaa.TmF
