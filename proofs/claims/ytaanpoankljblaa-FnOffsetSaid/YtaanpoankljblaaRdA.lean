/- A reader of bytes: take. -/
import Derived.Test.YtaanpoankljblaaProg
import Derived.WalkKit
import Derived.Below
import Derived.KernelRfl
import Derived.RowKit3
import Derived.LoopN
import Derived.LoopTactic
import Derived.Outline
import Derived.WalkSpells
import Derived.WalkLawsBesides
import Derived.Laws.BitsLemmas
import Derived.Laws.Rows
import Derived.Laws.Slices
import Derived.Deep.LoopGhost
namespace Go.Proofs.Ytaanpoankljblaa.RdA
open Go.RowKit
set_option linter.unusedVariables false
set_option linter.unusedSimpArgs false

structure Keep (p : Prop) : Prop where mk :: (out : p)

theorem wraps_u64 (n : Int) (h₀ : 0 ≤ n) (h₁ : n < 2 ^ 64) : IntKind.u64.wrap n = n := by
  rw [show IntKind.u64.wrap n = n % 18446744073709551616 by simp [IntKind.wrap, IntKind.bits, IntKind.signed]]
  omega
theorem or_byte (v b : Int) (h0 : 0 ≤ v) (h1 : v < 72057594037927936) (b0 : 0 ≤ b) (b1 : b < 256) : bits .or .u64 (v * 256) b = v * 256 + b :=
  bits_join .u64 64 (by decide) wraps_u64 8 (v * 256) b (by omega) (by omega) (by omega) b0 (by omega) (by omega)

/-- The bytes of a number of k bytes, where they lie. -/
def Bytes (w : World) (g off k : Nat) (x : Int) : Prop := ∀ j, j < k → w.cell? ⟨g, off + j, none⟩ = some (.int .u8 (x / 2 ^ (8 * (k - 1 - j)) % 256))

theorem top_step (x : Int) (k i : Nat) (hx : 0 ≤ x) (hi : i < k) (hk : k ≤ 8) (hl : x < 2 ^ (8 * k)) :
    0 ≤ x / 2 ^ (8 * (k - i)) ∧ x / 2 ^ (8 * (k - i)) < 72057594037927936 ∧ x / 2 ^ (8 * (k - i)) * 256 + x / 2 ^ (8 * (k - 1 - i)) % 256 = x / 2 ^ (8 * (k - (i + 1))) := by
  obtain ⟨m, rfl⟩ : ∃ m, k = i + 1 + m := ⟨k - (i + 1), by omega⟩
  have e1 : i + 1 + m - i = m + 1 := by omega
  have e2 : i + 1 + m - 1 - i = m := by omega
  have e3 : i + 1 + m - (i + 1) = m := by omega
  rw [e1, e2, e3]
  have p : (2 : Int) ^ (8 * (m + 1)) = 2 ^ (8 * m) * 256 := by rw [show 8 * (m + 1) = 8 * m + 8 by omega, Int.pow_add]; rfl
  have d : x / 2 ^ (8 * (m + 1)) = x / 2 ^ (8 * m) / 256 := by rw [p, Int.ediv_ediv_of_nonneg (Int.pow_nonneg (by decide))]
  rw [d]
  generalize hy : x / 2 ^ (8 * m) = y
  have y0 : 0 ≤ y := by rw [← hy]; exact Int.ediv_nonneg hx (Int.pow_nonneg (by decide))
  have y1 : y < 18446744073709551616 := by
    rw [← hy]
    have h1 : x / 2 ^ (8 * m) ≤ x := Int.ediv_le_self _ hx
    have h2 : (2 : Int) ^ (8 * (i + 1 + m)) ≤ 2 ^ 64 := by
      have := Nat.pow_le_pow_right (show 0 < 2 by decide) (show 8 * (i + 1 + m) ≤ 64 by omega)
      exact_mod_cast this
    have h3 : (2 : Int) ^ 64 = 18446744073709551616 := by decide
    omega
  omega

set_option maxHeartbeats 400000 in
theorem take_any (R g off n c k : Nat) (x : Int) (w : World) (hR : w.heap[R]? = some (.cells #[.slice (some ⟨g, off, none⟩) n c] 145 (0, 0))) (hk : k ≤ 8) (hkn : k ≤ n) (hnc : n ≤ c) (hc : c ≤ 9223372036854775807) (hx : 0 ≤ x) (hl : x < 2 ^ (8 * k)) (hb : Bytes w g off k x) :
    Calls Try.prog 103 #[.pointer (some ⟨R, 0, none⟩), .int .i64 k] w fun e w' => e = .returned (.int .u64 x) ∧ w' = w.setCell ⟨R, 0, none⟩ (.slice (some ⟨g, if c = k then off else off + k, none⟩) (n - k) (c - k)) := by
  have HB := Keep.mk hb
  have c0 := (cell_of_row w R 0 _ _ _ hR).trans (show #[Value.slice (some ⟨g, off, none⟩) n c][0]? = some (Value.slice (some ⟨g, off, none⟩) n c) from rfl)
  have f0 := frozen_of_row w R 0 _ _ hR
  have HR := Keep.mk hR
  have HL := Keep.mk hl
  clear hb hR hl
  go_enter Try.func103, Try.ntmps103
  go_wp2_with fail
  go_loop [4, 6, 14] (fun v b i => ∃ m : Nat, m ≤ k ∧ i = .int .i64 m ∧ v = .int .u64 (x / 2 ^ (8 * (k - m)))) (fun _ _ i => k - (intOf i).toNat)
  case atStart =>
    refine ⟨0, Nat.zero_le _, rfl, ?_⟩
    rw [Nat.sub_zero, Int.ediv_eq_zero_of_lt hx HL.out]
  case round =>
    obtain ⟨m, hm, rfl, rfl⟩ := hrel
    by_cases hlt : m < k
    · obtain ⟨a0, a1, a2⟩ := top_step x k m hx hlt hk HL.out
      have hc := HB.out m hlt
      have b0 : 0 ≤ x / 2 ^ (8 * (k - 1 - m)) % 256 := by omega
      have b1 : x / 2 ^ (8 * (k - 1 - m)) % 256 < 256 := by omega
      have H2 := Keep.mk a2
      clear a2
      generalize x / 2 ^ (8 * (k - m)) = v at *
      generalize x / 2 ^ (8 * (k - 1 - m)) % 256 = b at *
      have ho := or_byte v b a0 a1 b0 b1
      go_wp2_with fail
      exact ⟨⟨m + 1, by omega, by go_num, by rw [H2.out]⟩, by simp [intOf]; omega⟩
    · have hmk : m = k := by omega
      subst hmk
      have e0 : x / 2 ^ (8 * (m - m)) = x := by simp
      rw [e0]
      clear e0 HB HL
      by_cases hcm : c = m
      · subst hcm
        go_wp2_with fail
        go_ret
        exact ⟨rfl, by simp⟩
      · have hcm' : ¬ (m = c) := fun h => hcm h.symm
        go_wp2_with fail
        go_ret
        exact ⟨rfl, by simp [hcm]⟩

end Go.Proofs.Ytaanpoankljblaa.RdA
