/- Numbers of 64 bits below 2^62 and numbers of 32 bits have seconds and fractions, within one nanosecond; an interval is a power of two of seconds wherever the reference has one.
   Conditions: none beyond the statement's own guards (n below 2^62; the power from -127 to 127). -/
import Derived.Test.YtaanpoankljblaaPFnDurationsx2
import Derived.Laws.BitsLemmas
namespace Go.Proofs.Ytaanpoankljblaa.Pure
open Go.RowKit Go.Proofs.Ytaanpoankljblaa.PFnDurations Go.Proofs.YtaanpoankljblaaW.PrintWords Go.Proofs.YtaanpoankljblaaW.PrintLast

theorem wrapU64 (n : Int) : IntKind.u64.wrap n = n % 18446744073709551616 := by simp [IntKind.wrap, IntKind.bits, IntKind.signed]
theorem wraps_u64 (n : Int) (h₀ : 0 ≤ n) (h₁ : n < 2 ^ 64) : IntKind.u64.wrap n = n := by rw [wrapU64]; omega
theorem wraps_u32 (n : Int) (h₀ : 0 ≤ n) (h₁ : n < 2 ^ 32) : IntKind.u32.wrap n = n := by rw [IntKind.wrap_u32]; omega
theorem w64 (n : Int) (h₀ : -9223372036854775808 ≤ n) (h₁ : n < 9223372036854775808) : wrap64 n = n := by unfold wrap64; omega
theorem mask32_u64 (x : Int) (h₀ : 0 ≤ x) (h₁ : x < 2 ^ 64) : Go.bits .and .u64 x 4294967295 = x % 4294967296 :=
  bits_mask .u64 64 (by decide) wraps_u64 32 (by decide) x h₀ h₁
theorem mask16_u64 (x : Int) (h₀ : 0 ≤ x) (h₁ : x < 2 ^ 64) : Go.bits .and .u64 x 65535 = x % 65536 :=
  bits_mask .u64 64 (by decide) wraps_u64 16 (by decide) x h₀ h₁
theorem mask16_u32 (x : Int) (h₀ : 0 ≤ x) (h₁ : x < 2 ^ 32) : Go.bits .and .u32 x 65535 = x % 65536 :=
  bits_mask .u32 32 (by decide) wraps_u32 16 (by decide) x h₀ h₁

/-- The package's seconds and fraction of a number of 64 bits. -/
theorem dur_val (n : Int) (h0 : 0 ≤ n) (h1 : n < 4611686018427387904) :
    ntp4_timestamp_Duration.f n = some (n / 4294967296 * 1000000000 + n % 4294967296 * 1000000000 / 4294967296 + (n % 4294967296 * 1000000000 % 4294967296 + 2147483648) / 4294967296) := by
  have a1 : 0 ≤ n % 4294967296 * 1000000000 := by omega
  have a2 : n % 4294967296 * 1000000000 < 2 ^ 64 := by omega
  unfold ntp4_timestamp_Duration.f
  rw [mask32_u64 n h0 (by omega), wraps_u64 _ a1 a2, mask32_u64 _ a1 a2]
  generalize n % 4294967296 * 1000000000 = m at a1 a2 ⊢
  simp only [wrapU64]
  unfold wrap64
  congr 1
  omega

theorem short_val (n : Int) (h0 : 0 ≤ n) (h1 : n < 4294967296) :
    ntp4_timeShortV4_Duration.f n = some (n / 65536 * 1000000000 + n % 65536 * 1000000000 / 65536 + (n % 65536 * 1000000000 % 65536 + 32768) / 65536) := by
  have a1 : 0 ≤ n % 65536 * 1000000000 := by omega
  have a2 : n % 65536 * 1000000000 < 2 ^ 64 := by omega
  unfold ntp4_timeShortV4_Duration.f
  rw [mask16_u32 n h0 (by omega), wraps_u64 (n % 65536) (by omega) (by omega), wraps_u64 _ a1 a2, mask16_u64 _ a1 a2]
  generalize n % 65536 * 1000000000 = m at a1 a2 ⊢
  simp only [wrapU64]
  unfold wrap64
  congr 1
  omega

theorem frac_val (n : Int) (h0 : 0 ≤ n) (h1 : n < 4294967296) : spec_Fraction.f n = some (n * 1000000000 / 4294967296) := by
  unfold spec_Fraction.f
  rw [wraps_u64 n h0 (by omega), wraps_u64 (n * 1000000000) (by omega) (by omega), w64 _ (by omega) (by omega)]

theorem near_true (a b : Int) (h1 : -1 ≤ a - b) (h2 : a - b ≤ 1) : spec_Near.f a b = some true := by
  unfold spec_Near.f
  have e : wrap64 (a - b) = a - b := by unfold wrap64; omega
  rw [e, if_pos (by omega)]
  simp [h2]

/-- The reference's power and the package's interval at a power. -/
def powerFits (p : Int) : Bool :=
  match spec_Power.f 300 p with
  | some (v, b) => !b || (impl_Interval.f 300 p == some v)
  | none => false

theorem powers_all : ∀ i : Fin 255, powerFits ((i.val : Int) - 127) = true := by decide +kernel

theorem works_true : laws_works.f 300 = some true := by decide +kernel

theorem mono_steps {α : Type} (g : Nat → Option α) (h : ∀ k, LeO (g k) (g (k + 1))) (k d : Nat) (r : α) (e : g k = some r) : g (k + d) = some r := by
  induction d with
  | zero => exact e
  | succ d ih => exact h _ _ ih

theorem j1_true (p : Int) (b : Bool) (hb : b = true → -127 ≤ p ∧ p ≤ 127) : laws_FnDurations.j1 301 p b = some true := by
  cases b with
  | false => simp only [laws_FnDurations.j1, works_true]; rfl
  | true =>
    obtain ⟨l, u⟩ := hb rfl
    have hp := powers_all ⟨(p + 127).toNat, by omega⟩
    have e : (((p + 127).toNat : Nat) : Int) - 127 = p := by omega
    simp only [e] at hp
    unfold powerFits at hp
    simp only [laws_FnDurations.j1, works_true]
    cases hs : spec_Power.f 300 p with
    | none => rw [hs] at hp; exact absurd hp (by simp)
    | some vb =>
      obtain ⟨v, b⟩ := vb
      rw [hs] at hp
      cases b with
      | false => rfl
      | true =>
        have hi : impl_Interval.f 300 p = some v := by simpa using hp
        simp [hi]

theorem FnDurations : laws_FnDurations.Pure := by
  intro n s p wn ws wp
  have bn : 0 ≤ n ∧ n < 18446744073709551616 := by
    have h := of_decide_eq_true ((Bool.and_eq_true _ _).mp wn).1
    have h' := of_decide_eq_true ((Bool.and_eq_true _ _).mp wn).2
    exact ⟨h, Int.lt_of_le_sub_one h'⟩
  have bs : 0 ≤ s ∧ s < 4294967296 := by
    have h := of_decide_eq_true ((Bool.and_eq_true _ _).mp ws).1
    have h' := of_decide_eq_true ((Bool.and_eq_true _ _).mp ws).2
    exact ⟨h, Int.lt_of_le_sub_one h'⟩
  obtain ⟨n0, n1⟩ := bn
  obtain ⟨s0, s1⟩ := bs
  refine ⟨302, ?_⟩
  unfold laws_FnDurations.f
  have hw : laws_works.f 302 = some true := mono_steps _ laws_works.mono 300 2 _ works_true
  by_cases big : n ≥ 4611686018427387904
  · rw [if_pos big, hw]; rfl
  · have lt : n < 4611686018427387904 := by omega
    have hl : ∀ b, b = false → laws_FnDurations.j0 302 p b = some true := by
      intro b e
      subst e
      simp only [laws_FnDurations.j0]
      rw [if_neg (by simp)]
      by_cases g : p ≥ -127
      · rw [if_pos g]; exact j1_true p _ (fun h => ⟨by omega, of_decide_eq_true h⟩)
      · rw [if_neg g]; exact j1_true p _ (fun h => by simp at h)
    rw [if_neg big, frac_val _ (by omega) (by omega), frac_val _ (by omega) (by omega)]
    unfold impl_Duration.f ntp4_ZZDuration.f impl_Short.f ntp4_ZZShort.f
    rw [dur_val n n0 lt, short_val s s0 s1]
    simp only [Option.bind_some]
    rw [w64 (n / 4294967296) (by omega) (by omega), w64 (n / 4294967296 * 1000000000) (by omega) (by omega), w64 (n / 4294967296 * 1000000000 + _) (by omega) (by omega)]
    rw [near_true _ _ (by omega) (by omega)]
    simp only [Option.bind_some, if_true]
    rw [w64 (s / 65536) (by omega) (by omega), w64 (s / 65536 * 1000000000) (by omega) (by omega), w64 (s / 65536 * 1000000000 + _) (by omega) (by omega)]
    have hg : s * 65536 / 4294967296 = s / 65536 := by omega
    rw [near_true _ _ (by omega) (by omega)]
    simp only [Option.bind_some]
    exact hl _ rfl

end Go.Proofs.Ytaanpoankljblaa.Pure
