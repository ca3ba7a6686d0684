/- impl.Parse: an answer's header, or nothing. -/
import Derived.Test.YtaanpoankljblaaRdF
import Derived.Test.YtaanpoankljblaaFmtD
namespace Go.Proofs.Ytaanpoankljblaa.RdG
open Go.RowKit Go.Proofs.Ytaanpoankljblaa.RdA Go.Proofs.Ytaanpoankljblaa.RdC Go.Proofs.Ytaanpoankljblaa.RdD Go.Proofs.Ytaanpoankljblaa.RdE Go.Proofs.Ytaanpoankljblaa.RdF Go.Proofs.Ytaanpoankljblaa.FmtA Go.Proofs.Ytaanpoankljblaa.FmtB
set_option linter.unusedVariables false
set_option linter.unusedSimpArgs false

set_option maxHeartbeats 1600000 in
set_option maxRecDepth 100000 in
theorem parse_yes (g n c : Nat) (f stratum poll prec rd disp rid ref orig recv xmit : Int) (w : World)
    (HT : Keep (∀ W : World, Below w.heap.size w W → ∀ D B : Nat, D < W.heap.size → B < W.heap.size → W.heap[D]? = some (.cells #[.slice (some ⟨g, 0, none⟩) n c] 40 (0, 0)) → HdrAt W B (hdrCells 0 0 0 0 0 0 0 0 0 0 0 0 0) → Calls Try.prog 53 #[.pointer (some ⟨D, 0, none⟩), .pointer (some ⟨B, 0, none⟩)] W fun e w' => Filled W B f stratum poll prec rd disp rid ref orig recv xmit e w')) :
    Calls Try.prog 24 #[.slice (some ⟨g, 0, none⟩) n c] w fun e w' => e = .returned (.tuple #[.agg #[.int .i64 (f / 64 % 4), .int .i64 (f / 8 % 8), .int .i64 (f % 8), .int .i64 stratum, .int .i64 poll, .int .i64 prec, .int .u32 rd, .int .u32 disp, .int .u32 rid, .int .u64 ref, .int .u64 orig, .int .u64 recv, .int .u64 xmit], .bool true]) ∧ Below w.heap.size w w' := by
  have hmf : ∀ (fn : Fn) (first cap : Array Value) (w : World), (Instr.makeFunc fn first cap).run Try.prog w = .ok (.func fn first cap) w := fun _ _ _ _ => rfl
  go_enter Try.func24, Try.ntmps24
  go_wp2_with fail
  obtain ⟨N, hN⟩ : ∃ N, N = w.heap.size := ⟨_, rfl⟩
  generalize hW : World.alloc _ _ = W0
  have hD : W0.heap[N]? = some (.cells #[.slice (some ⟨g, 0, none⟩) n c] 40 (0, 0)) := by
    subst hN
    rw [← hW]
    exact (Below.heap_alloc _ _ _ (by simp)).trans (heap_alloc_new w _)
  have hB : W0.heap[N + 1]? = some (.cells (hdrCells 0 0 0 0 0 0 0 0 0 0 0 0 0) 36 (0, 0)) := by
    subst hN
    rw [← hW]
    exact heap_alloc2_new w _ _
  have hb : Below N w W0 := by
    subst hN
    rw [← hW]
    exact ((Below.refl _ _).alloc (Nat.le_refl _) _).alloc (by simp) _
  have hS : W0.heap.size = N + 2 := by
    subst hN
    rw [← hW]
    simp
  rw [← hN]
  have HN : Keep (N = w.heap.size) := ⟨hN⟩
  clear hW
  have hT : BufA.Keep (Calls Try.prog 53 #[.pointer (some ⟨N, 0, none⟩), .pointer (some ⟨N + 1, 0, none⟩)] (W0.alloc (.cells #[.bool false] 4)) fun e w' => e = .returned (.bool true) ∧ (w'.heap[N + 1]? = some (.cells (hdrCells (f / 64 % 4) (f / 8 % 8) (f % 8) stratum poll prec rd disp rid ref orig recv xmit) 36 (0, 0)) ∧ Below N w w') ∧ w'.heap[W0.heap.size]? = some (.cells #[.bool false] 4 (0, 0))) := by
    have e1 : (W0.alloc (.cells #[.bool false] 4)).heap.size = N + 3 := by simp; omega
    have b1 : Below N w (W0.alloc (.cells #[.bool false] 4)) := hb.alloc (by omega) _
    have k1 := (Below.heap_alloc W0 (.cells #[.bool false] 4) N (by omega)).trans hD
    have k2 := (Below.heap_alloc W0 (.cells #[.bool false] 4) (N + 1) (by omega)).trans hB
    refine ⟨(HT.out _ (hN ▸ b1) N (N + 1) (by omega) (by omega) k1 k2).mono ?_⟩
    rintro e w' h
    obtain ⟨rfl, ha, hx⟩ := h
    rw [e1] at hx
    refine ⟨rfl, ⟨ha, b1.trans (hx.below (N := N) (by omega) (by omega))⟩, (hx.block _ (by omega) (by omega)).trans (heap_alloc_new W0 _)⟩
  clear hD hB hb HT hN
  refine (TryA.try_parse _ _ true W0 _ hT).mono ?_
  rintro e w3 ⟨rfl, w1, ⟨h1, h2⟩, hw3⟩
  rw [hS] at hw3
  have h3 : w3.heap[N + 1]? = some (.cells (hdrCells (f / 64 % 4) (f / 8 % 8) (f % 8) stratum poll prec rd disp rid ref orig recv xmit) 36 (0, 0)) := by
    rw [hw3]
    exact (Below.heap_setCell _ _ _ _ (by show N + 1 ≠ N + 2; omega)).trans h1
  have h4 : Below N w w3 := by
    rw [hw3]
    exact h2.setCell (p := ⟨N + 2, 0, none⟩) (by show N ≤ N + 2; omega) _
  clear hT hS hw3 h1 h2
  obtain ⟨c0, c1, c2, c3, c4, c5, c6, c7, c8, c9, c10, c11, c12⟩ := FmtD.hdr_cells h3
  have H3 := Keep.mk h3
  have H4 := Keep.mk h4
  clear h3 h4
  go_wp2_with (refine wpList_store_row rfl 36 (.tmp 2) (.tmp 9) rfl (N + 1) (hdrCells (f / 64 % 4) (f / 8 % 8) (f % 8) stratum poll prec rd disp rid ref orig recv xmit) rfl rfl 36 _ H3.out hdr36_info rfl (hdr36_one _ _ _ _ _ _ _ _ _ _ _ _ _) ?_)
  obtain ⟨d0, d1, d2, d3, d4, d5, d6, d7, d8, d9, d10, d11, d12⟩ := FmtD.hdr_cells (setRow_heap w3 (N + 1) _ (hdrCells (f / 64 % 4) (f / 8 % 8) (f % 8) stratum poll prec rd disp rid ref orig recv xmit) 36 (0, 0) H3.out)
  have H5 := Keep.mk (below_setRow H4.out (g := N + 1) (by omega) (hdrCells (f / 64 % 4) (f / 8 % 8) (f % 8) stratum poll prec rd disp rid ref orig recv xmit))
  clear c0 c1 c2 c3 c4 c5 c6 c7 c8 c9 c10 c11 c12
  go_wp2_with fail
  refine bodyPost_ret (v := .tuple #[.agg #[.int .i64 (f / 64 % 4), .int .i64 (f / 8 % 8), .int .i64 (f % 8), .int .i64 stratum, .int .i64 poll, .int .i64 prec, .int .u32 rd, .int .u32 disp, .int .u32 rid, .int .u64 ref, .int .u64 orig, .int .u64 recv, .int .u64 xmit], .bool true]) (by simp [results, Try.results24, go_sem, d0, d1, d2, d3, d4, d5, d6, d7, d8, d9, d10, d11, d12]) rfl ⟨rfl, HN.out ▸ H5.out⟩

set_option maxHeartbeats 1600000 in
set_option maxRecDepth 100000 in
theorem parse_no (g n c : Nat) (f stratum poll prec rd disp rid ref orig recv xmit : Int) (w : World)
    (HT : Keep (∀ W : World, Below w.heap.size w W → ∀ D B : Nat, D < W.heap.size → B < W.heap.size → W.heap[D]? = some (.cells #[.slice (some ⟨g, 0, none⟩) n c] 40 (0, 0)) → HdrAt W B (hdrCells 0 0 0 0 0 0 0 0 0 0 0 0 0) → Calls Try.prog 53 #[.pointer (some ⟨D, 0, none⟩), .pointer (some ⟨B, 0, none⟩)] W fun e w' => Empty W e w')) :
    Calls Try.prog 24 #[.slice (some ⟨g, 0, none⟩) n c] w fun e w' => e = .returned (.tuple #[.agg #[.int .i64 0, .int .i64 0, .int .i64 0, .int .i64 0, .int .i64 0, .int .i64 0, .int .u32 0, .int .u32 0, .int .u32 0, .int .u64 0, .int .u64 0, .int .u64 0, .int .u64 0], .bool false]) ∧ Below w.heap.size w w' := by
  have hmf : ∀ (fn : Fn) (first cap : Array Value) (w : World), (Instr.makeFunc fn first cap).run Try.prog w = .ok (.func fn first cap) w := fun _ _ _ _ => rfl
  go_enter Try.func24, Try.ntmps24
  go_wp2_with fail
  obtain ⟨N, hN⟩ : ∃ N, N = w.heap.size := ⟨_, rfl⟩
  generalize hW : World.alloc _ _ = W0
  have hD : W0.heap[N]? = some (.cells #[.slice (some ⟨g, 0, none⟩) n c] 40 (0, 0)) := by
    subst hN
    rw [← hW]
    exact (Below.heap_alloc _ _ _ (by simp)).trans (heap_alloc_new w _)
  have hB : W0.heap[N + 1]? = some (.cells (hdrCells 0 0 0 0 0 0 0 0 0 0 0 0 0) 36 (0, 0)) := by
    subst hN
    rw [← hW]
    exact heap_alloc2_new w _ _
  have hb : Below N w W0 := by
    subst hN
    rw [← hW]
    exact ((Below.refl _ _).alloc (Nat.le_refl _) _).alloc (by simp) _
  have hS : W0.heap.size = N + 2 := by
    subst hN
    rw [← hW]
    simp
  rw [← hN]
  have HN : Keep (N = w.heap.size) := ⟨hN⟩
  clear hW
  have hT : BufA.Keep (Calls Try.prog 53 #[.pointer (some ⟨N, 0, none⟩), .pointer (some ⟨N + 1, 0, none⟩)] (W0.alloc (.cells #[.bool false] 4)) fun e w' => e = .returned (.bool false) ∧ (w'.heap[N + 1]? = some (.cells (hdrCells 0 0 0 0 0 0 0 0 0 0 0 0 0) 36 (0, 0)) ∧ Below N w w') ∧ w'.heap[W0.heap.size]? = some (.cells #[.bool false] 4 (0, 0))) := by
    have e1 : (W0.alloc (.cells #[.bool false] 4)).heap.size = N + 3 := by simp; omega
    have b1 : Below N w (W0.alloc (.cells #[.bool false] 4)) := hb.alloc (by omega) _
    have k1 := (Below.heap_alloc W0 (.cells #[.bool false] 4) N (by omega)).trans hD
    have k2 := (Below.heap_alloc W0 (.cells #[.bool false] 4) (N + 1) (by omega)).trans hB
    refine ⟨(HT.out _ (hN ▸ b1) N (N + 1) (by omega) (by omega) k1 k2).mono ?_⟩
    rintro e w' h
    obtain ⟨rfl, hx⟩ := h
    rw [e1] at hx
    refine ⟨rfl, ⟨(hx.block _ (by omega)).trans k2, b1.trans (hx.mono (by omega))⟩, (hx.block _ (by omega)).trans (heap_alloc_new W0 _)⟩
  clear hD hB hb HT hN
  refine (TryA.try_parse _ _ false W0 _ hT).mono ?_
  rintro e w3 ⟨rfl, w1, ⟨h1, h2⟩, hw3⟩
  rw [hS] at hw3
  have h3 : w3.heap[N + 1]? = some (.cells (hdrCells 0 0 0 0 0 0 0 0 0 0 0 0 0) 36 (0, 0)) := by
    rw [hw3]
    exact (Below.heap_setCell _ _ _ _ (by show N + 1 ≠ N + 2; omega)).trans h1
  have h4 : Below N w w3 := by
    rw [hw3]
    exact h2.setCell (p := ⟨N + 2, 0, none⟩) (by show N ≤ N + 2; omega) _
  clear hT hS hw3 h1 h2
  obtain ⟨c0, c1, c2, c3, c4, c5, c6, c7, c8, c9, c10, c11, c12⟩ := FmtD.hdr_cells h3
  have H3 := Keep.mk h3
  have H4 := Keep.mk h4
  clear h3 h4
  go_wp2_with (refine wpList_store_row rfl 36 (.tmp 2) (.tmp 8) rfl (N + 1) (hdrCells 0 0 0 0 0 0 0 0 0 0 0 0 0) rfl rfl 36 _ H3.out hdr36_info rfl (hdr36_one _ _ _ _ _ _ _ _ _ _ _ _ _) ?_)
  obtain ⟨d0, d1, d2, d3, d4, d5, d6, d7, d8, d9, d10, d11, d12⟩ := FmtD.hdr_cells (setRow_heap w3 (N + 1) _ (hdrCells 0 0 0 0 0 0 0 0 0 0 0 0 0) 36 (0, 0) H3.out)
  have H5 := Keep.mk (below_setRow H4.out (g := N + 1) (by omega) (hdrCells 0 0 0 0 0 0 0 0 0 0 0 0 0))
  clear c0 c1 c2 c3 c4 c5 c6 c7 c8 c9 c10 c11 c12
  go_wp2_with fail
  refine bodyPost_ret (v := .tuple #[.agg #[.int .i64 0, .int .i64 0, .int .i64 0, .int .i64 0, .int .i64 0, .int .i64 0, .int .u32 0, .int .u32 0, .int .u32 0, .int .u64 0, .int .u64 0, .int .u64 0, .int .u64 0], .bool false]) (by simp [results, Try.results24, go_sem, d0, d1, d2, d3, d4, d5, d6, d7, d8, d9, d10, d11, d12]) rfl ⟨rfl, HN.out ▸ H5.out⟩

end Go.Proofs.Ytaanpoankljblaa.RdG
