/- Letters: the four letters of a number, or nothing. -/
import Derived.Test.YtaanpoankljblaaKissA
namespace Go.Proofs.Ytaanpoankljblaa.KissB
open Go.RowKit Go.Proofs.Ytaanpoankljblaa.High Go.Proofs.Ytaanpoankljblaa.KissA
set_option linter.unusedVariables false
set_option linter.unusedSimpArgs false

/-- A fact that the walk does not see. -/
structure Keep (p : Prop) : Prop where mk :: (out : p)

def Lo (w : World) (a b c d : Int) : World := w.alloc (.cells #[.int .u8 a, .int .u8 b, .int .u8 c, .int .u8 d] 5)

theorem lo_cell0 (w : World) (a b c d : Int) : (Lo w a b c d).cell? ⟨w.heap.size, 0, none⟩ = some (.int .u8 a) := by unfold Lo; go_simp
theorem lo_cell1 (w : World) (a b c d : Int) : (Lo w a b c d).cell? ⟨w.heap.size, 1, none⟩ = some (.int .u8 b) := by unfold Lo; go_simp
theorem lo_cell2 (w : World) (a b c d : Int) : (Lo w a b c d).cell? ⟨w.heap.size, 2, none⟩ = some (.int .u8 c) := by unfold Lo; go_simp
theorem lo_cell3 (w : World) (a b c d : Int) : (Lo w a b c d).cell? ⟨w.heap.size, 3, none⟩ = some (.int .u8 d) := by unfold Lo; go_simp
theorem lo_string (w : World) (a b c d : Int) : (convert 40 9 (.slice (some ⟨w.heap.size, 0, none⟩) 4 4)).run Try.prog (Lo w a b c d) = .ok (.string (strOfNums [a, b, c, d])) (Lo w a b c d) := to_string 0 a b c d 5 w
theorem lo_below (w : World) (a b c d : Int) : Below w.heap.size w (Lo w a b c d) := (Below.refl _ _).alloc (Nat.le_refl _) _

/-- high(n, 4), its bytes under names. -/
theorem high_lo (n a b c d : Int) (ha : a = n / 256 / 256 / 256 % 256) (hb : b = n / 256 / 256 % 256) (hc : c = n / 256 % 256) (hd : d = n % 256) (w : World) :
    Calls Try.prog 43 #[.int .u64 n, .int .i64 4] w fun e w' => e = .returned (.slice (some ⟨w.heap.size, 0, none⟩) 4 4) ∧ Lo w a b c d = w' := by
  subst ha hb hc hd
  exact high4 n w

def great (a : Int) : Prop := 65 ≤ a ∧ a ≤ 90

set_option maxHeartbeats 400000 in
theorem letters_yes (n a b c d : Int) (w : World) (h0 : 0 ≤ n) (h1 : n < 4294967296) (ha : a = n / 256 / 256 / 256 % 256) (hb : b = n / 256 / 256 % 256) (hc : c = n / 256 % 256) (hd : d = n % 256)
    (ga : great a) (gb : great b) (gc : great c) (gd : great d) :
    Calls Try.prog 11 #[.int .u32 n] w fun e w' => e = .returned (.string (strOfNums [a, b, c, d])) ∧ Below w.heap.size w w' := by
  have HH := Keep.mk (high_lo n a b c d ha hb hc hd)
  clear ha hb hc hd
  obtain ⟨a0, a1⟩ := ga
  obtain ⟨b0, b1⟩ := gb
  obtain ⟨c0, c1⟩ := gc
  obtain ⟨d0, d1⟩ := gd
  have l0 := lo_cell0 w a b c d
  have l1 := lo_cell1 w a b c d
  have l2 := lo_cell2 w a b c d
  have l3 := lo_cell3 w a b c d
  go_enter Try.func11, Try.ntmps11
  go_wp2_with fail
  refine (HH.out _).mono ?_
  rintro e w' ⟨rfl, rfl⟩
  go_wp2_with fail
  refine wp_loop_rounds 5 ?_
  iterate 4 (rw [rounds_succ]; go_wp2_with fail)
  rw [rounds_succ]
  clear a0 a1 b0 b1 c0 c1 d0 d1 l0 l1 l2 l3
  have ls := lo_string w a b c d
  go_wp2_with fail
  go_ret
  exact ⟨rfl, lo_below _ _ _ _ _⟩

set_option maxHeartbeats 400000 in
theorem letters_no (n a b c d : Int) (w : World) (h0 : 0 ≤ n) (h1 : n < 4294967296) (ha : a = n / 256 / 256 / 256 % 256) (hb : b = n / 256 / 256 % 256) (hc : c = n / 256 % 256) (hd : d = n % 256)
    (hno : ¬ (great a ∧ great b ∧ great c ∧ great d)) :
    Calls Try.prog 11 #[.int .u32 n] w fun e w' => e = .returned (.string ⟨#[]⟩) ∧ Below w.heap.size w w' := by
  have HH := Keep.mk (high_lo n a b c d ha hb hc hd)
  clear ha hb hc hd
  have l0 := lo_cell0 w a b c d
  have l1 := lo_cell1 w a b c d
  have l2 := lo_cell2 w a b c d
  have l3 := lo_cell3 w a b c d
  have bad : (a < 65 ∨ 90 < a) ∨ (65 ≤ a ∧ a ≤ 90 ∧ (b < 65 ∨ 90 < b)) ∨ (65 ≤ a ∧ a ≤ 90 ∧ 65 ≤ b ∧ b ≤ 90 ∧ (c < 65 ∨ 90 < c)) ∨ (65 ≤ a ∧ a ≤ 90 ∧ 65 ≤ b ∧ b ≤ 90 ∧ 65 ≤ c ∧ c ≤ 90 ∧ (d < 65 ∨ 90 < d)) := by
    unfold great at hno
    omega
  clear hno
  rcases bad with (h | h) | ⟨g0, g1, h | h⟩ | ⟨g0, g1, g2, g3, h | h⟩ | ⟨g0, g1, g2, g3, g4, g5, h | h⟩
  all_goals
    go_enter Try.func11, Try.ntmps11
    go_wp2_with fail
    refine (HH.out _).mono ?_
    rintro e w' ⟨rfl, rfl⟩
    go_wp2_with fail
    refine wp_loop_rounds 4 ?_
    repeat (rw [rounds_succ]; go_wp2_with fail)
    go_ret
    exact ⟨rfl, lo_below _ _ _ _ _⟩
end Go.Proofs.Ytaanpoankljblaa.KissB
