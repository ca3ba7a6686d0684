/- spec.Far of four times: what it says where it says no. -/
import Derived.Test.YtaanpoankljblaaTmE
import Derived.Laws.NewBlocks
namespace Go.Proofs.Ytaanpoankljblaa.Far
open Go.RowKit Go.Proofs.Ytaanpoankljblaa.RdA Go.Proofs.Ytaanpoankljblaa.FmtA Go.Proofs.Ytaanpoankljblaa.FmtB Go.Proofs.Ytaanpoankljblaa.RdF Go.Proofs.Ytaanpoankljblaa.RdD Go.Proofs.Ytaanpoankljblaa.TmA Go.Proofs.Ytaanpoankljblaa.TmD
set_option linter.unusedVariables false
set_option linter.unusedSimpArgs false

/-- Times lie at most so far apart. -/
def Close (s1 s2 s3 s4 : Int) : Prop := s1 - s2 ≤ 2000000000 ∧ s1 - s3 ≤ 2000000000 ∧ s1 - s4 ≤ 2000000000 ∧ s2 - s1 ≤ 2000000000 ∧ s2 - s3 ≤ 2000000000 ∧ s2 - s4 ≤ 2000000000 ∧ s3 - s1 ≤ 2000000000 ∧ s3 - s2 ≤ 2000000000 ∧ s3 - s4 ≤ 2000000000 ∧ s4 - s1 ≤ 2000000000 ∧ s4 - s2 ≤ 2000000000 ∧ s4 - s3 ≤ 2000000000
def Says (s1 s2 s3 s4 : Int) (w : World) (e : Ending) (w' : World) : Prop := ∃ b, e = .returned (.bool b) ∧ (b = false → Close s1 s2 s3 s4) ∧ Below w.heap.size w w'

theorem eight {w : World} {g : Nat} {T : TypeId} {v0 v1 v2 v3 v4 v5 v6 v7 : Value} (h : w.heap[g]? = some (.cells #[v0, v1, v2, v3, v4, v5, v6, v7] T (0, 0))) :
    w.cell? ⟨g, 0, none⟩ = some v0 ∧ w.cell? ⟨g, 1, none⟩ = some v1 ∧ w.cell? ⟨g, 2, none⟩ = some v2 ∧ w.cell? ⟨g, 3, none⟩ = some v3 ∧ w.cell? ⟨g, 4, none⟩ = some v4 ∧ w.cell? ⟨g, 5, none⟩ = some v5 ∧ w.cell? ⟨g, 6, none⟩ = some v6 ∧ w.cell? ⟨g, 7, none⟩ = some v7 := by
  refine ⟨?_, ?_, ?_, ?_, ?_, ?_, ?_, ?_⟩ <;> (unfold World.cell?; rw [h]; rfl)

theorem alc_cell {W : World} {o : Obj} {p : Addr} {v : Value} (h : W.cell? p = some v) : (W.alloc o).cell? p = some v := (Below.cell ((Below.refl W.heap.size W).alloc (Nat.le_refl _) o) (World.block_lt_of_cell? W p h)).trans h
theorem new_cells {W : World} {a b : Int} : (W.alloc (.cells #[.int .i64 a, .int .i64 b] 50)).cell? ⟨W.heap.size, 0, none⟩ = some (.int .i64 a) ∧ (W.alloc (.cells #[.int .i64 a, .int .i64 b] 50)).cell? ⟨W.heap.size, 1, none⟩ = some (.int .i64 b) := pl_cells (heap_alloc_new W _)

set_option maxHeartbeats 3200000 in
set_option maxRecDepth 100000 in
theorem far_any (g : Nat) (s1 n1 s2 n2 s3 n3 s4 n4 : Int) (w : World) (hg : w.heap[g]? = some (.cells #[.int .i64 s1, .int .i64 n1, .int .i64 s2, .int .i64 n2, .int .i64 s3, .int .i64 n3, .int .i64 s4, .int .i64 n4] 50 (0, 0)))
    (a0 : -3000000000 ≤ s1) (a1 : s1 < 4000000000) (b0 : -3000000000 ≤ s2) (b1 : s2 < 4000000000) (c0 : -3000000000 ≤ s3) (c1 : s3 < 4000000000) (d0 : -3000000000 ≤ s4) (d1 : s4 < 4000000000) :
    Calls Try.prog 28 #[.slice (some ⟨g, 0, none⟩) 4 4] w (Says s1 s2 s3 s4 w) := by
  obtain ⟨k0, k1, k2, k3, k4, k5, k6, k7⟩ := eight hg
  have HB0 := Keep.mk (Below.refl w.heap.size w)
  have HS := Keep.mk (show Says s1 s2 s3 s4 w = Says s1 s2 s3 s4 w from rfl)
  clear hg
  go_enter Try.func28, Try.ntmps28
  go_wp2_with fail
  refine wp_loop_rounds 5 ?_
  rw [rounds_succ]
  go_wp2_with fail
  refine wp_loop_rounds 5 ?_
  have t0 := (new_cells (W := w) (a := s1) (b := n1)).1
  have t1 := (new_cells (W := w) (a := s1) (b := n1)).2
  replace k0 := alc_cell (o := (.cells #[.int .i64 s1, .int .i64 n1] 50)) k0
  replace k1 := alc_cell (o := (.cells #[.int .i64 s1, .int .i64 n1] 50)) k1
  replace k2 := alc_cell (o := (.cells #[.int .i64 s1, .int .i64 n1] 50)) k2
  replace k3 := alc_cell (o := (.cells #[.int .i64 s1, .int .i64 n1] 50)) k3
  replace k4 := alc_cell (o := (.cells #[.int .i64 s1, .int .i64 n1] 50)) k4
  replace k5 := alc_cell (o := (.cells #[.int .i64 s1, .int .i64 n1] 50)) k5
  replace k6 := alc_cell (o := (.cells #[.int .i64 s1, .int .i64 n1] 50)) k6
  replace k7 := alc_cell (o := (.cells #[.int .i64 s1, .int .i64 n1] 50)) k7
  have HB1 := Keep.mk (alc HB0.out (.cells #[.int .i64 s1, .int .i64 n1] 50))
  clear HB0
  obtain ⟨b, eb⟩ : ∃ b, b = w.heap.size := ⟨_, rfl⟩
  rw [← eb] at t0 t1 ⊢
  clear eb
  generalize w.alloc (.cells #[.int .i64 s1, .int .i64 n1] 50) = W1 at k0 k1 k2 k3 k4 k5 k6 k7 t0 t1 HB1 ⊢
  have hl := World.block_lt_of_cell? _ _ k0
  have hb := World.block_lt_of_cell? _ _ t0
  rw [rounds_succ]
  go_wp2_with fail
  clear hl hb
  replace k0 := alc_cell (o := (.cells #[.int .i64 s1, .int .i64 n1] 50)) k0
  replace k1 := alc_cell (o := (.cells #[.int .i64 s1, .int .i64 n1] 50)) k1
  replace k2 := alc_cell (o := (.cells #[.int .i64 s1, .int .i64 n1] 50)) k2
  replace k3 := alc_cell (o := (.cells #[.int .i64 s1, .int .i64 n1] 50)) k3
  replace k4 := alc_cell (o := (.cells #[.int .i64 s1, .int .i64 n1] 50)) k4
  replace k5 := alc_cell (o := (.cells #[.int .i64 s1, .int .i64 n1] 50)) k5
  replace k6 := alc_cell (o := (.cells #[.int .i64 s1, .int .i64 n1] 50)) k6
  replace k7 := alc_cell (o := (.cells #[.int .i64 s1, .int .i64 n1] 50)) k7
  replace t0 := alc_cell (o := (.cells #[.int .i64 s1, .int .i64 n1] 50)) t0
  replace t1 := alc_cell (o := (.cells #[.int .i64 s1, .int .i64 n1] 50)) t1
  have HB2 := Keep.mk (alc HB1.out (.cells #[.int .i64 s1, .int .i64 n1] 50))
  clear HB1
  generalize W1.alloc (.cells #[.int .i64 s1, .int .i64 n1] 50) = W2 at k0 k1 k2 k3 k4 k5 k6 k7 t0 t1 HB2 ⊢
  have hl := World.block_lt_of_cell? _ _ k0
  have hb := World.block_lt_of_cell? _ _ t0
  rw [rounds_succ]
  go_wp2_with fail
  any_goals (go_ret; exact ⟨true, rfl, (fun h => by cases h), alc HB2.out _⟩)
  clear hl hb
  replace k0 := alc_cell (o := (.cells #[.int .i64 s2, .int .i64 n2] 50)) k0
  replace k1 := alc_cell (o := (.cells #[.int .i64 s2, .int .i64 n2] 50)) k1
  replace k2 := alc_cell (o := (.cells #[.int .i64 s2, .int .i64 n2] 50)) k2
  replace k3 := alc_cell (o := (.cells #[.int .i64 s2, .int .i64 n2] 50)) k3
  replace k4 := alc_cell (o := (.cells #[.int .i64 s2, .int .i64 n2] 50)) k4
  replace k5 := alc_cell (o := (.cells #[.int .i64 s2, .int .i64 n2] 50)) k5
  replace k6 := alc_cell (o := (.cells #[.int .i64 s2, .int .i64 n2] 50)) k6
  replace k7 := alc_cell (o := (.cells #[.int .i64 s2, .int .i64 n2] 50)) k7
  replace t0 := alc_cell (o := (.cells #[.int .i64 s2, .int .i64 n2] 50)) t0
  replace t1 := alc_cell (o := (.cells #[.int .i64 s2, .int .i64 n2] 50)) t1
  have HB3 := Keep.mk (alc HB2.out (.cells #[.int .i64 s2, .int .i64 n2] 50))
  clear HB2
  generalize W2.alloc (.cells #[.int .i64 s2, .int .i64 n2] 50) = W3 at k0 k1 k2 k3 k4 k5 k6 k7 t0 t1 HB3 ⊢
  have hl := World.block_lt_of_cell? _ _ k0
  have hb := World.block_lt_of_cell? _ _ t0
  rw [rounds_succ]
  go_wp2_with fail
  any_goals (go_ret; exact ⟨true, rfl, (fun h => by cases h), alc HB3.out _⟩)
  clear hl hb
  replace k0 := alc_cell (o := (.cells #[.int .i64 s3, .int .i64 n3] 50)) k0
  replace k1 := alc_cell (o := (.cells #[.int .i64 s3, .int .i64 n3] 50)) k1
  replace k2 := alc_cell (o := (.cells #[.int .i64 s3, .int .i64 n3] 50)) k2
  replace k3 := alc_cell (o := (.cells #[.int .i64 s3, .int .i64 n3] 50)) k3
  replace k4 := alc_cell (o := (.cells #[.int .i64 s3, .int .i64 n3] 50)) k4
  replace k5 := alc_cell (o := (.cells #[.int .i64 s3, .int .i64 n3] 50)) k5
  replace k6 := alc_cell (o := (.cells #[.int .i64 s3, .int .i64 n3] 50)) k6
  replace k7 := alc_cell (o := (.cells #[.int .i64 s3, .int .i64 n3] 50)) k7
  replace t0 := alc_cell (o := (.cells #[.int .i64 s3, .int .i64 n3] 50)) t0
  replace t1 := alc_cell (o := (.cells #[.int .i64 s3, .int .i64 n3] 50)) t1
  have HB4 := Keep.mk (alc HB3.out (.cells #[.int .i64 s3, .int .i64 n3] 50))
  clear HB3
  generalize W3.alloc (.cells #[.int .i64 s3, .int .i64 n3] 50) = W4 at k0 k1 k2 k3 k4 k5 k6 k7 t0 t1 HB4 ⊢
  have hl := World.block_lt_of_cell? _ _ k0
  have hb := World.block_lt_of_cell? _ _ t0
  rw [rounds_succ]
  go_wp2_with fail
  any_goals (go_ret; exact ⟨true, rfl, (fun h => by cases h), alc HB4.out _⟩)
  clear hl hb
  replace k0 := alc_cell (o := (.cells #[.int .i64 s4, .int .i64 n4] 50)) k0
  replace k1 := alc_cell (o := (.cells #[.int .i64 s4, .int .i64 n4] 50)) k1
  replace k2 := alc_cell (o := (.cells #[.int .i64 s4, .int .i64 n4] 50)) k2
  replace k3 := alc_cell (o := (.cells #[.int .i64 s4, .int .i64 n4] 50)) k3
  replace k4 := alc_cell (o := (.cells #[.int .i64 s4, .int .i64 n4] 50)) k4
  replace k5 := alc_cell (o := (.cells #[.int .i64 s4, .int .i64 n4] 50)) k5
  replace k6 := alc_cell (o := (.cells #[.int .i64 s4, .int .i64 n4] 50)) k6
  replace k7 := alc_cell (o := (.cells #[.int .i64 s4, .int .i64 n4] 50)) k7
  replace t0 := alc_cell (o := (.cells #[.int .i64 s4, .int .i64 n4] 50)) t0
  replace t1 := alc_cell (o := (.cells #[.int .i64 s4, .int .i64 n4] 50)) t1
  have HB5 := Keep.mk (alc HB4.out (.cells #[.int .i64 s4, .int .i64 n4] 50))
  clear HB4
  generalize W4.alloc (.cells #[.int .i64 s4, .int .i64 n4] 50) = W5 at k0 k1 k2 k3 k4 k5 k6 k7 t0 t1 HB5 ⊢
  rw [rounds_succ]
  go_wp2_with fail
  clear t0 t1
  rw [rounds_succ]
  go_wp2_with fail
  refine wp_loop_rounds 5 ?_
  have t0 := (new_cells (W := W5) (a := s2) (b := n2)).1
  have t1 := (new_cells (W := W5) (a := s2) (b := n2)).2
  replace k0 := alc_cell (o := (.cells #[.int .i64 s2, .int .i64 n2] 50)) k0
  replace k1 := alc_cell (o := (.cells #[.int .i64 s2, .int .i64 n2] 50)) k1
  replace k2 := alc_cell (o := (.cells #[.int .i64 s2, .int .i64 n2] 50)) k2
  replace k3 := alc_cell (o := (.cells #[.int .i64 s2, .int .i64 n2] 50)) k3
  replace k4 := alc_cell (o := (.cells #[.int .i64 s2, .int .i64 n2] 50)) k4
  replace k5 := alc_cell (o := (.cells #[.int .i64 s2, .int .i64 n2] 50)) k5
  replace k6 := alc_cell (o := (.cells #[.int .i64 s2, .int .i64 n2] 50)) k6
  replace k7 := alc_cell (o := (.cells #[.int .i64 s2, .int .i64 n2] 50)) k7
  have HB6 := Keep.mk (alc HB5.out (.cells #[.int .i64 s2, .int .i64 n2] 50))
  clear HB5
  obtain ⟨b, eb⟩ : ∃ b, b = W5.heap.size := ⟨_, rfl⟩
  rw [← eb] at t0 t1 ⊢
  clear eb
  generalize W5.alloc (.cells #[.int .i64 s2, .int .i64 n2] 50) = W6 at k0 k1 k2 k3 k4 k5 k6 k7 t0 t1 HB6 ⊢
  have hl := World.block_lt_of_cell? _ _ k0
  have hb := World.block_lt_of_cell? _ _ t0
  rw [rounds_succ]
  go_wp2_with fail
  any_goals (go_ret; exact ⟨true, rfl, (fun h => by cases h), alc HB6.out _⟩)
  clear hl hb
  replace k0 := alc_cell (o := (.cells #[.int .i64 s1, .int .i64 n1] 50)) k0
  replace k1 := alc_cell (o := (.cells #[.int .i64 s1, .int .i64 n1] 50)) k1
  replace k2 := alc_cell (o := (.cells #[.int .i64 s1, .int .i64 n1] 50)) k2
  replace k3 := alc_cell (o := (.cells #[.int .i64 s1, .int .i64 n1] 50)) k3
  replace k4 := alc_cell (o := (.cells #[.int .i64 s1, .int .i64 n1] 50)) k4
  replace k5 := alc_cell (o := (.cells #[.int .i64 s1, .int .i64 n1] 50)) k5
  replace k6 := alc_cell (o := (.cells #[.int .i64 s1, .int .i64 n1] 50)) k6
  replace k7 := alc_cell (o := (.cells #[.int .i64 s1, .int .i64 n1] 50)) k7
  replace t0 := alc_cell (o := (.cells #[.int .i64 s1, .int .i64 n1] 50)) t0
  replace t1 := alc_cell (o := (.cells #[.int .i64 s1, .int .i64 n1] 50)) t1
  have HB7 := Keep.mk (alc HB6.out (.cells #[.int .i64 s1, .int .i64 n1] 50))
  clear HB6
  generalize W6.alloc (.cells #[.int .i64 s1, .int .i64 n1] 50) = W7 at k0 k1 k2 k3 k4 k5 k6 k7 t0 t1 HB7 ⊢
  have hl := World.block_lt_of_cell? _ _ k0
  have hb := World.block_lt_of_cell? _ _ t0
  rw [rounds_succ]
  go_wp2_with fail
  clear hl hb
  replace k0 := alc_cell (o := (.cells #[.int .i64 s2, .int .i64 n2] 50)) k0
  replace k1 := alc_cell (o := (.cells #[.int .i64 s2, .int .i64 n2] 50)) k1
  replace k2 := alc_cell (o := (.cells #[.int .i64 s2, .int .i64 n2] 50)) k2
  replace k3 := alc_cell (o := (.cells #[.int .i64 s2, .int .i64 n2] 50)) k3
  replace k4 := alc_cell (o := (.cells #[.int .i64 s2, .int .i64 n2] 50)) k4
  replace k5 := alc_cell (o := (.cells #[.int .i64 s2, .int .i64 n2] 50)) k5
  replace k6 := alc_cell (o := (.cells #[.int .i64 s2, .int .i64 n2] 50)) k6
  replace k7 := alc_cell (o := (.cells #[.int .i64 s2, .int .i64 n2] 50)) k7
  replace t0 := alc_cell (o := (.cells #[.int .i64 s2, .int .i64 n2] 50)) t0
  replace t1 := alc_cell (o := (.cells #[.int .i64 s2, .int .i64 n2] 50)) t1
  have HB8 := Keep.mk (alc HB7.out (.cells #[.int .i64 s2, .int .i64 n2] 50))
  clear HB7
  generalize W7.alloc (.cells #[.int .i64 s2, .int .i64 n2] 50) = W8 at k0 k1 k2 k3 k4 k5 k6 k7 t0 t1 HB8 ⊢
  have hl := World.block_lt_of_cell? _ _ k0
  have hb := World.block_lt_of_cell? _ _ t0
  rw [rounds_succ]
  go_wp2_with fail
  any_goals (go_ret; exact ⟨true, rfl, (fun h => by cases h), alc HB8.out _⟩)
  clear hl hb
  replace k0 := alc_cell (o := (.cells #[.int .i64 s3, .int .i64 n3] 50)) k0
  replace k1 := alc_cell (o := (.cells #[.int .i64 s3, .int .i64 n3] 50)) k1
  replace k2 := alc_cell (o := (.cells #[.int .i64 s3, .int .i64 n3] 50)) k2
  replace k3 := alc_cell (o := (.cells #[.int .i64 s3, .int .i64 n3] 50)) k3
  replace k4 := alc_cell (o := (.cells #[.int .i64 s3, .int .i64 n3] 50)) k4
  replace k5 := alc_cell (o := (.cells #[.int .i64 s3, .int .i64 n3] 50)) k5
  replace k6 := alc_cell (o := (.cells #[.int .i64 s3, .int .i64 n3] 50)) k6
  replace k7 := alc_cell (o := (.cells #[.int .i64 s3, .int .i64 n3] 50)) k7
  replace t0 := alc_cell (o := (.cells #[.int .i64 s3, .int .i64 n3] 50)) t0
  replace t1 := alc_cell (o := (.cells #[.int .i64 s3, .int .i64 n3] 50)) t1
  have HB9 := Keep.mk (alc HB8.out (.cells #[.int .i64 s3, .int .i64 n3] 50))
  clear HB8
  generalize W8.alloc (.cells #[.int .i64 s3, .int .i64 n3] 50) = W9 at k0 k1 k2 k3 k4 k5 k6 k7 t0 t1 HB9 ⊢
  have hl := World.block_lt_of_cell? _ _ k0
  have hb := World.block_lt_of_cell? _ _ t0
  rw [rounds_succ]
  go_wp2_with fail
  any_goals (go_ret; exact ⟨true, rfl, (fun h => by cases h), alc HB9.out _⟩)
  clear hl hb
  replace k0 := alc_cell (o := (.cells #[.int .i64 s4, .int .i64 n4] 50)) k0
  replace k1 := alc_cell (o := (.cells #[.int .i64 s4, .int .i64 n4] 50)) k1
  replace k2 := alc_cell (o := (.cells #[.int .i64 s4, .int .i64 n4] 50)) k2
  replace k3 := alc_cell (o := (.cells #[.int .i64 s4, .int .i64 n4] 50)) k3
  replace k4 := alc_cell (o := (.cells #[.int .i64 s4, .int .i64 n4] 50)) k4
  replace k5 := alc_cell (o := (.cells #[.int .i64 s4, .int .i64 n4] 50)) k5
  replace k6 := alc_cell (o := (.cells #[.int .i64 s4, .int .i64 n4] 50)) k6
  replace k7 := alc_cell (o := (.cells #[.int .i64 s4, .int .i64 n4] 50)) k7
  replace t0 := alc_cell (o := (.cells #[.int .i64 s4, .int .i64 n4] 50)) t0
  replace t1 := alc_cell (o := (.cells #[.int .i64 s4, .int .i64 n4] 50)) t1
  have HB10 := Keep.mk (alc HB9.out (.cells #[.int .i64 s4, .int .i64 n4] 50))
  clear HB9
  generalize W9.alloc (.cells #[.int .i64 s4, .int .i64 n4] 50) = W10 at k0 k1 k2 k3 k4 k5 k6 k7 t0 t1 HB10 ⊢
  rw [rounds_succ]
  go_wp2_with fail
  clear t0 t1
  rw [rounds_succ]
  go_wp2_with fail
  refine wp_loop_rounds 5 ?_
  have t0 := (new_cells (W := W10) (a := s3) (b := n3)).1
  have t1 := (new_cells (W := W10) (a := s3) (b := n3)).2
  replace k0 := alc_cell (o := (.cells #[.int .i64 s3, .int .i64 n3] 50)) k0
  replace k1 := alc_cell (o := (.cells #[.int .i64 s3, .int .i64 n3] 50)) k1
  replace k2 := alc_cell (o := (.cells #[.int .i64 s3, .int .i64 n3] 50)) k2
  replace k3 := alc_cell (o := (.cells #[.int .i64 s3, .int .i64 n3] 50)) k3
  replace k4 := alc_cell (o := (.cells #[.int .i64 s3, .int .i64 n3] 50)) k4
  replace k5 := alc_cell (o := (.cells #[.int .i64 s3, .int .i64 n3] 50)) k5
  replace k6 := alc_cell (o := (.cells #[.int .i64 s3, .int .i64 n3] 50)) k6
  replace k7 := alc_cell (o := (.cells #[.int .i64 s3, .int .i64 n3] 50)) k7
  have HB11 := Keep.mk (alc HB10.out (.cells #[.int .i64 s3, .int .i64 n3] 50))
  clear HB10
  obtain ⟨b, eb⟩ : ∃ b, b = W10.heap.size := ⟨_, rfl⟩
  rw [← eb] at t0 t1 ⊢
  clear eb
  generalize W10.alloc (.cells #[.int .i64 s3, .int .i64 n3] 50) = W11 at k0 k1 k2 k3 k4 k5 k6 k7 t0 t1 HB11 ⊢
  have hl := World.block_lt_of_cell? _ _ k0
  have hb := World.block_lt_of_cell? _ _ t0
  rw [rounds_succ]
  go_wp2_with fail
  any_goals (go_ret; exact ⟨true, rfl, (fun h => by cases h), alc HB11.out _⟩)
  clear hl hb
  replace k0 := alc_cell (o := (.cells #[.int .i64 s1, .int .i64 n1] 50)) k0
  replace k1 := alc_cell (o := (.cells #[.int .i64 s1, .int .i64 n1] 50)) k1
  replace k2 := alc_cell (o := (.cells #[.int .i64 s1, .int .i64 n1] 50)) k2
  replace k3 := alc_cell (o := (.cells #[.int .i64 s1, .int .i64 n1] 50)) k3
  replace k4 := alc_cell (o := (.cells #[.int .i64 s1, .int .i64 n1] 50)) k4
  replace k5 := alc_cell (o := (.cells #[.int .i64 s1, .int .i64 n1] 50)) k5
  replace k6 := alc_cell (o := (.cells #[.int .i64 s1, .int .i64 n1] 50)) k6
  replace k7 := alc_cell (o := (.cells #[.int .i64 s1, .int .i64 n1] 50)) k7
  replace t0 := alc_cell (o := (.cells #[.int .i64 s1, .int .i64 n1] 50)) t0
  replace t1 := alc_cell (o := (.cells #[.int .i64 s1, .int .i64 n1] 50)) t1
  have HB12 := Keep.mk (alc HB11.out (.cells #[.int .i64 s1, .int .i64 n1] 50))
  clear HB11
  generalize W11.alloc (.cells #[.int .i64 s1, .int .i64 n1] 50) = W12 at k0 k1 k2 k3 k4 k5 k6 k7 t0 t1 HB12 ⊢
  have hl := World.block_lt_of_cell? _ _ k0
  have hb := World.block_lt_of_cell? _ _ t0
  rw [rounds_succ]
  go_wp2_with fail
  any_goals (go_ret; exact ⟨true, rfl, (fun h => by cases h), alc HB12.out _⟩)
  clear hl hb
  replace k0 := alc_cell (o := (.cells #[.int .i64 s2, .int .i64 n2] 50)) k0
  replace k1 := alc_cell (o := (.cells #[.int .i64 s2, .int .i64 n2] 50)) k1
  replace k2 := alc_cell (o := (.cells #[.int .i64 s2, .int .i64 n2] 50)) k2
  replace k3 := alc_cell (o := (.cells #[.int .i64 s2, .int .i64 n2] 50)) k3
  replace k4 := alc_cell (o := (.cells #[.int .i64 s2, .int .i64 n2] 50)) k4
  replace k5 := alc_cell (o := (.cells #[.int .i64 s2, .int .i64 n2] 50)) k5
  replace k6 := alc_cell (o := (.cells #[.int .i64 s2, .int .i64 n2] 50)) k6
  replace k7 := alc_cell (o := (.cells #[.int .i64 s2, .int .i64 n2] 50)) k7
  replace t0 := alc_cell (o := (.cells #[.int .i64 s2, .int .i64 n2] 50)) t0
  replace t1 := alc_cell (o := (.cells #[.int .i64 s2, .int .i64 n2] 50)) t1
  have HB13 := Keep.mk (alc HB12.out (.cells #[.int .i64 s2, .int .i64 n2] 50))
  clear HB12
  generalize W12.alloc (.cells #[.int .i64 s2, .int .i64 n2] 50) = W13 at k0 k1 k2 k3 k4 k5 k6 k7 t0 t1 HB13 ⊢
  have hl := World.block_lt_of_cell? _ _ k0
  have hb := World.block_lt_of_cell? _ _ t0
  rw [rounds_succ]
  go_wp2_with fail
  clear hl hb
  replace k0 := alc_cell (o := (.cells #[.int .i64 s3, .int .i64 n3] 50)) k0
  replace k1 := alc_cell (o := (.cells #[.int .i64 s3, .int .i64 n3] 50)) k1
  replace k2 := alc_cell (o := (.cells #[.int .i64 s3, .int .i64 n3] 50)) k2
  replace k3 := alc_cell (o := (.cells #[.int .i64 s3, .int .i64 n3] 50)) k3
  replace k4 := alc_cell (o := (.cells #[.int .i64 s3, .int .i64 n3] 50)) k4
  replace k5 := alc_cell (o := (.cells #[.int .i64 s3, .int .i64 n3] 50)) k5
  replace k6 := alc_cell (o := (.cells #[.int .i64 s3, .int .i64 n3] 50)) k6
  replace k7 := alc_cell (o := (.cells #[.int .i64 s3, .int .i64 n3] 50)) k7
  replace t0 := alc_cell (o := (.cells #[.int .i64 s3, .int .i64 n3] 50)) t0
  replace t1 := alc_cell (o := (.cells #[.int .i64 s3, .int .i64 n3] 50)) t1
  have HB14 := Keep.mk (alc HB13.out (.cells #[.int .i64 s3, .int .i64 n3] 50))
  clear HB13
  generalize W13.alloc (.cells #[.int .i64 s3, .int .i64 n3] 50) = W14 at k0 k1 k2 k3 k4 k5 k6 k7 t0 t1 HB14 ⊢
  have hl := World.block_lt_of_cell? _ _ k0
  have hb := World.block_lt_of_cell? _ _ t0
  rw [rounds_succ]
  go_wp2_with fail
  any_goals (go_ret; exact ⟨true, rfl, (fun h => by cases h), alc HB14.out _⟩)
  clear hl hb
  replace k0 := alc_cell (o := (.cells #[.int .i64 s4, .int .i64 n4] 50)) k0
  replace k1 := alc_cell (o := (.cells #[.int .i64 s4, .int .i64 n4] 50)) k1
  replace k2 := alc_cell (o := (.cells #[.int .i64 s4, .int .i64 n4] 50)) k2
  replace k3 := alc_cell (o := (.cells #[.int .i64 s4, .int .i64 n4] 50)) k3
  replace k4 := alc_cell (o := (.cells #[.int .i64 s4, .int .i64 n4] 50)) k4
  replace k5 := alc_cell (o := (.cells #[.int .i64 s4, .int .i64 n4] 50)) k5
  replace k6 := alc_cell (o := (.cells #[.int .i64 s4, .int .i64 n4] 50)) k6
  replace k7 := alc_cell (o := (.cells #[.int .i64 s4, .int .i64 n4] 50)) k7
  replace t0 := alc_cell (o := (.cells #[.int .i64 s4, .int .i64 n4] 50)) t0
  replace t1 := alc_cell (o := (.cells #[.int .i64 s4, .int .i64 n4] 50)) t1
  have HB15 := Keep.mk (alc HB14.out (.cells #[.int .i64 s4, .int .i64 n4] 50))
  clear HB14
  generalize W14.alloc (.cells #[.int .i64 s4, .int .i64 n4] 50) = W15 at k0 k1 k2 k3 k4 k5 k6 k7 t0 t1 HB15 ⊢
  rw [rounds_succ]
  go_wp2_with fail
  clear t0 t1
  rw [rounds_succ]
  go_wp2_with fail
  refine wp_loop_rounds 5 ?_
  have t0 := (new_cells (W := W15) (a := s4) (b := n4)).1
  have t1 := (new_cells (W := W15) (a := s4) (b := n4)).2
  replace k0 := alc_cell (o := (.cells #[.int .i64 s4, .int .i64 n4] 50)) k0
  replace k1 := alc_cell (o := (.cells #[.int .i64 s4, .int .i64 n4] 50)) k1
  replace k2 := alc_cell (o := (.cells #[.int .i64 s4, .int .i64 n4] 50)) k2
  replace k3 := alc_cell (o := (.cells #[.int .i64 s4, .int .i64 n4] 50)) k3
  replace k4 := alc_cell (o := (.cells #[.int .i64 s4, .int .i64 n4] 50)) k4
  replace k5 := alc_cell (o := (.cells #[.int .i64 s4, .int .i64 n4] 50)) k5
  replace k6 := alc_cell (o := (.cells #[.int .i64 s4, .int .i64 n4] 50)) k6
  replace k7 := alc_cell (o := (.cells #[.int .i64 s4, .int .i64 n4] 50)) k7
  have HB16 := Keep.mk (alc HB15.out (.cells #[.int .i64 s4, .int .i64 n4] 50))
  clear HB15
  obtain ⟨b, eb⟩ : ∃ b, b = W15.heap.size := ⟨_, rfl⟩
  rw [← eb] at t0 t1 ⊢
  clear eb
  generalize W15.alloc (.cells #[.int .i64 s4, .int .i64 n4] 50) = W16 at k0 k1 k2 k3 k4 k5 k6 k7 t0 t1 HB16 ⊢
  have hl := World.block_lt_of_cell? _ _ k0
  have hb := World.block_lt_of_cell? _ _ t0
  rw [rounds_succ]
  go_wp2_with fail
  any_goals (go_ret; exact ⟨true, rfl, (fun h => by cases h), alc HB16.out _⟩)
  clear hl hb
  replace k0 := alc_cell (o := (.cells #[.int .i64 s1, .int .i64 n1] 50)) k0
  replace k1 := alc_cell (o := (.cells #[.int .i64 s1, .int .i64 n1] 50)) k1
  replace k2 := alc_cell (o := (.cells #[.int .i64 s1, .int .i64 n1] 50)) k2
  replace k3 := alc_cell (o := (.cells #[.int .i64 s1, .int .i64 n1] 50)) k3
  replace k4 := alc_cell (o := (.cells #[.int .i64 s1, .int .i64 n1] 50)) k4
  replace k5 := alc_cell (o := (.cells #[.int .i64 s1, .int .i64 n1] 50)) k5
  replace k6 := alc_cell (o := (.cells #[.int .i64 s1, .int .i64 n1] 50)) k6
  replace k7 := alc_cell (o := (.cells #[.int .i64 s1, .int .i64 n1] 50)) k7
  replace t0 := alc_cell (o := (.cells #[.int .i64 s1, .int .i64 n1] 50)) t0
  replace t1 := alc_cell (o := (.cells #[.int .i64 s1, .int .i64 n1] 50)) t1
  have HB17 := Keep.mk (alc HB16.out (.cells #[.int .i64 s1, .int .i64 n1] 50))
  clear HB16
  generalize W16.alloc (.cells #[.int .i64 s1, .int .i64 n1] 50) = W17 at k0 k1 k2 k3 k4 k5 k6 k7 t0 t1 HB17 ⊢
  have hl := World.block_lt_of_cell? _ _ k0
  have hb := World.block_lt_of_cell? _ _ t0
  rw [rounds_succ]
  go_wp2_with fail
  any_goals (go_ret; exact ⟨true, rfl, (fun h => by cases h), alc HB17.out _⟩)
  clear hl hb
  replace k0 := alc_cell (o := (.cells #[.int .i64 s2, .int .i64 n2] 50)) k0
  replace k1 := alc_cell (o := (.cells #[.int .i64 s2, .int .i64 n2] 50)) k1
  replace k2 := alc_cell (o := (.cells #[.int .i64 s2, .int .i64 n2] 50)) k2
  replace k3 := alc_cell (o := (.cells #[.int .i64 s2, .int .i64 n2] 50)) k3
  replace k4 := alc_cell (o := (.cells #[.int .i64 s2, .int .i64 n2] 50)) k4
  replace k5 := alc_cell (o := (.cells #[.int .i64 s2, .int .i64 n2] 50)) k5
  replace k6 := alc_cell (o := (.cells #[.int .i64 s2, .int .i64 n2] 50)) k6
  replace k7 := alc_cell (o := (.cells #[.int .i64 s2, .int .i64 n2] 50)) k7
  replace t0 := alc_cell (o := (.cells #[.int .i64 s2, .int .i64 n2] 50)) t0
  replace t1 := alc_cell (o := (.cells #[.int .i64 s2, .int .i64 n2] 50)) t1
  have HB18 := Keep.mk (alc HB17.out (.cells #[.int .i64 s2, .int .i64 n2] 50))
  clear HB17
  generalize W17.alloc (.cells #[.int .i64 s2, .int .i64 n2] 50) = W18 at k0 k1 k2 k3 k4 k5 k6 k7 t0 t1 HB18 ⊢
  have hl := World.block_lt_of_cell? _ _ k0
  have hb := World.block_lt_of_cell? _ _ t0
  rw [rounds_succ]
  go_wp2_with fail
  any_goals (go_ret; exact ⟨true, rfl, (fun h => by cases h), alc HB18.out _⟩)
  clear hl hb
  replace k0 := alc_cell (o := (.cells #[.int .i64 s3, .int .i64 n3] 50)) k0
  replace k1 := alc_cell (o := (.cells #[.int .i64 s3, .int .i64 n3] 50)) k1
  replace k2 := alc_cell (o := (.cells #[.int .i64 s3, .int .i64 n3] 50)) k2
  replace k3 := alc_cell (o := (.cells #[.int .i64 s3, .int .i64 n3] 50)) k3
  replace k4 := alc_cell (o := (.cells #[.int .i64 s3, .int .i64 n3] 50)) k4
  replace k5 := alc_cell (o := (.cells #[.int .i64 s3, .int .i64 n3] 50)) k5
  replace k6 := alc_cell (o := (.cells #[.int .i64 s3, .int .i64 n3] 50)) k6
  replace k7 := alc_cell (o := (.cells #[.int .i64 s3, .int .i64 n3] 50)) k7
  replace t0 := alc_cell (o := (.cells #[.int .i64 s3, .int .i64 n3] 50)) t0
  replace t1 := alc_cell (o := (.cells #[.int .i64 s3, .int .i64 n3] 50)) t1
  have HB19 := Keep.mk (alc HB18.out (.cells #[.int .i64 s3, .int .i64 n3] 50))
  clear HB18
  generalize W18.alloc (.cells #[.int .i64 s3, .int .i64 n3] 50) = W19 at k0 k1 k2 k3 k4 k5 k6 k7 t0 t1 HB19 ⊢
  have hl := World.block_lt_of_cell? _ _ k0
  have hb := World.block_lt_of_cell? _ _ t0
  rw [rounds_succ]
  go_wp2_with fail
  clear hl hb
  replace k0 := alc_cell (o := (.cells #[.int .i64 s4, .int .i64 n4] 50)) k0
  replace k1 := alc_cell (o := (.cells #[.int .i64 s4, .int .i64 n4] 50)) k1
  replace k2 := alc_cell (o := (.cells #[.int .i64 s4, .int .i64 n4] 50)) k2
  replace k3 := alc_cell (o := (.cells #[.int .i64 s4, .int .i64 n4] 50)) k3
  replace k4 := alc_cell (o := (.cells #[.int .i64 s4, .int .i64 n4] 50)) k4
  replace k5 := alc_cell (o := (.cells #[.int .i64 s4, .int .i64 n4] 50)) k5
  replace k6 := alc_cell (o := (.cells #[.int .i64 s4, .int .i64 n4] 50)) k6
  replace k7 := alc_cell (o := (.cells #[.int .i64 s4, .int .i64 n4] 50)) k7
  replace t0 := alc_cell (o := (.cells #[.int .i64 s4, .int .i64 n4] 50)) t0
  replace t1 := alc_cell (o := (.cells #[.int .i64 s4, .int .i64 n4] 50)) t1
  have HB20 := Keep.mk (alc HB19.out (.cells #[.int .i64 s4, .int .i64 n4] 50))
  clear HB19
  generalize W19.alloc (.cells #[.int .i64 s4, .int .i64 n4] 50) = W20 at k0 k1 k2 k3 k4 k5 k6 k7 t0 t1 HB20 ⊢
  rw [rounds_succ]
  go_wp2_with fail
  clear t0 t1
  rw [rounds_succ]
  go_wp2_with fail
  go_ret
  refine ⟨false, rfl, fun _ => ?_, HB20.out⟩
  unfold Close
  omega

end Go.Proofs.Ytaanpoankljblaa.Far
