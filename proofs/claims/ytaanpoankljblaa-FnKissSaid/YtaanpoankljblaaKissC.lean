/- FnKiss returns true at every number. -/
import Derived.Test.YtaanpoankljblaaKissB
namespace Go.Proofs.Ytaanpoankljblaa.KissC
open Go.RowKit Go.Proofs.Ytaanpoankljblaa.High Go.Proofs.Ytaanpoankljblaa.KissA Go.Proofs.Ytaanpoankljblaa.KissB
set_option linter.unusedVariables false
set_option linter.unusedSimpArgs false

theorem kiss_lo (n a b c d : Int) (w : World) (ha : a = n / 256 / 256 / 256 % 256) (hb : b = n / 256 / 256 % 256) (hc : c = n / 256 % 256) (hd : d = n % 256)
    (ga : great a) (gb : great b) (gc : great c) (gd : great d) :
    Calls Try.prog 65 #[.int .u32 n] w fun e w' => e = .returned (.string (strOfNums [a, b, c, d])) ∧ Below w.heap.size w w' := by
  have e1 : n / 256 / 256 / 256 % 256 = n / 16777216 % 256 := by omega
  have e2 : n / 256 / 256 % 256 = n / 65536 % 256 := by omega
  rw [e1] at ha
  rw [e2] at hb
  subst ha hb hc hd
  exact kiss_any n w ga.1 ga.2 gb.1 gb.2 gc.1 gc.2 gd.1 gd.2

set_option maxHeartbeats 400000 in
theorem impl_kiss (n a b c d : Int) (w : World) (ha : a = n / 256 / 256 / 256 % 256) (hb : b = n / 256 / 256 % 256) (hc : c = n / 256 % 256) (hd : d = n % 256)
    (ga : great a) (gb : great b) (gc : great c) (gd : great d) :
    Calls Try.prog 12 #[.int .u32 n] w fun e w' => e = .returned (.string (strOfNums [a, b, c, d])) ∧ Below w.heap.size w w' := by
  have HH := Keep.mk (kiss_lo n a b c d w ha hb hc hd ga gb gc gd)
  clear ha hb hc hd ga gb gc gd
  generalize strOfNums [a, b, c, d] = s at HH ⊢
  go_enter Try.func12, Try.ntmps12
  go_wp2_with (first | (go_at_call 65; refine HH.out.mono ?_; rintro e w' ⟨rfl, hb⟩) | go_in)
  go_ret
  exact ⟨rfl, hb⟩

theorem nonempty (a b c d : Int) : (strOfNums [a, b, c, d]).toList.isEmpty = false := by
  generalize a.toNat = a
  simp only [strOfNums, List.map_cons, List.map_nil]
  generalize UInt8.ofNat _ = x
  kernel_rfl

set_option maxHeartbeats 400000 in
theorem walk_yes (n : Int) (s : ByteArray) (w : World) (hs : s.toList.isEmpty = false)
    (H1 : Keep (∀ w, Calls Try.prog 11 #[.int .u32 n] w fun e w' => e = .returned (.string s) ∧ Below w.heap.size w w'))
    (H2 : Keep (∀ w, Calls Try.prog 12 #[.int .u32 n] w fun e w' => e = .returned (.string s) ∧ Below w.heap.size w w')) :
    Calls Try.prog 3 #[.int .u32 n] w fun e w' => e = .returned (.bool true) ∧ Below w.heap.size w w' := by
  go_enter Try.func3, Try.ntmps3
  go_wp2_with fail
  refine (H1.out _).mono ?_
  rintro e w1 ⟨rfl, hb1⟩
  go_wp2_with fail
  refine (H2.out _).mono ?_
  rintro e w2 ⟨rfl, hb2⟩
  go_wp2_with fail
  refine (Works.works_any _).mono ?_
  rintro e w3 ⟨rfl, hb3⟩
  go_wp2_with fail
  go_ret
  exact ⟨rfl, (hb1.trans (hb2.mono hb1.size)).trans (hb3.mono (Nat.le_trans hb1.size hb2.size))⟩

set_option maxHeartbeats 400000 in
theorem walk_no (n : Int) (w : World)
    (H1 : Keep (∀ w, Calls Try.prog 11 #[.int .u32 n] w fun e w' => e = .returned (.string ⟨#[]⟩) ∧ Below w.heap.size w w')) :
    Calls Try.prog 3 #[.int .u32 n] w fun e w' => e = .returned (.bool true) ∧ Below w.heap.size w w' := by
  go_enter Try.func3, Try.ntmps3
  go_wp2_with fail
  refine (H1.out _).mono ?_
  rintro e w1 ⟨rfl, hb1⟩
  go_wp2_with fail
  refine (Works.works_any _).mono ?_
  rintro e w3 ⟨rfl, hb3⟩
  go_wp2_with fail
  go_ret
  exact ⟨rfl, hb1.trans (hb3.mono hb1.size)⟩

theorem walk (n : Int) (h0 : 0 ≤ n) (h1 : n < 4294967296) (w : World) :
    Calls Try.prog 3 #[.int .u32 n] w fun e w' => e = .returned (.bool true) ∧ Below w.heap.size w w' := by
  obtain ⟨a, ha⟩ : ∃ a, a = n / 256 / 256 / 256 % 256 := ⟨_, rfl⟩
  obtain ⟨b, hb⟩ : ∃ a, a = n / 256 / 256 % 256 := ⟨_, rfl⟩
  obtain ⟨c, hc⟩ : ∃ a, a = n / 256 % 256 := ⟨_, rfl⟩
  obtain ⟨d, hd⟩ : ∃ a, a = n % 256 := ⟨_, rfl⟩
  by_cases h : great a ∧ great b ∧ great c ∧ great d
  · obtain ⟨ga, gb, gc, gd⟩ := h
    exact walk_yes n _ w (nonempty a b c d) ⟨fun w => letters_yes n a b c d w h0 h1 ha hb hc hd ga gb gc gd⟩ ⟨fun w => impl_kiss n a b c d w ha hb hc hd ga gb gc gd⟩
  · exact walk_no n w ⟨fun w => letters_no n a b c d w h0 h1 ha hb hc hd h⟩

end Go.Proofs.Ytaanpoankljblaa.KissC
