/- impl.Format at a header whose numbers are of their sizes. -/
import Derived.Test.YtaanpoankljblaaTryA
namespace Go.Proofs.Ytaanpoankljblaa.FmtC
open Go.RowKit Go.Proofs.Ytaanpoankljblaa.BufA Go.Proofs.Ytaanpoankljblaa.FmtA Go.Proofs.Ytaanpoankljblaa.FmtB Go.Proofs.Ytaanpoankljblaa.TryA
set_option linter.unusedVariables false
set_option linter.unusedSimpArgs false

set_option maxHeartbeats 400000 in
theorem within1 (lo hi x : Int) (g : Nat) (w : World) (hc : w.cell? ⟨g, 0, none⟩ = some (.int .i64 x)) (h0 : lo ≤ x) (h1 : x ≤ hi) :
    Calls Try.prog 47 #[.int .i64 lo, .int .i64 hi, .slice (some ⟨g, 0, none⟩) 1 1] w fun e w' => e = .returned (.bool true) ∧ w = w' := by
  go_enter Try.func47, Try.ntmps47
  go_wp2_with fail
  refine wp_loop_rounds 2 ?_
  iterate 2 (rw [rounds_succ]; go_wp2_with fail)
  go_ret
  exact ⟨rfl, rfl⟩

set_option maxHeartbeats 400000 in
theorem within2 (lo hi x y : Int) (g : Nat) (w : World) (hc : w.cell? ⟨g, 0, none⟩ = some (.int .i64 x)) (hd : w.cell? ⟨g, 1, none⟩ = some (.int .i64 y)) (h0 : lo ≤ x) (h1 : x ≤ hi) (h2 : lo ≤ y) (h3 : y ≤ hi) :
    Calls Try.prog 47 #[.int .i64 lo, .int .i64 hi, .slice (some ⟨g, 0, none⟩) 2 2] w fun e w' => e = .returned (.bool true) ∧ w = w' := by
  go_enter Try.func47, Try.ntmps47
  go_wp2_with fail
  refine wp_loop_rounds 3 ?_
  iterate 3 (rw [rounds_succ]; go_wp2_with fail)
  go_ret
  exact ⟨rfl, rfl⟩

theorem six_first (w : World) (o1 o2 o3 o4 o5 o6 : Obj) : ((((((w.alloc o1).alloc o2).alloc o3).alloc o4).alloc o5).alloc o6).heap[w.heap.size]? = some o1 := by
  rw [Below.heap_alloc _ _ _ (by simp; omega), Below.heap_alloc _ _ _ (by simp; omega), Below.heap_alloc _ _ _ (by simp; omega), Below.heap_alloc _ _ _ (by simp; omega), Below.heap_alloc _ _ _ (by simp)]
  exact heap_alloc_new w o1
theorem six_second (w : World) (o1 o2 o3 o4 o5 o6 : Obj) : ((((((w.alloc o1).alloc o2).alloc o3).alloc o4).alloc o5).alloc o6).heap[w.heap.size + 1]? = some o2 := by
  rw [Below.heap_alloc _ _ _ (by simp <;> omega), Below.heap_alloc _ _ _ (by simp <;> omega), Below.heap_alloc _ _ _ (by simp <;> omega), Below.heap_alloc _ _ _ (by simp)]
  simpa using heap_alloc_new (w.alloc o1) o2
theorem six_below (w : World) (o1 o2 o3 o4 o5 o6 : Obj) : Below w.heap.size w ((((((w.alloc o1).alloc o2).alloc o3).alloc o4).alloc o5).alloc o6) :=
  ((((((Below.refl _ _).alloc (Nat.le_refl _) _).alloc (by simp) _).alloc (by simp; omega) _).alloc (by simp; omega) _).alloc (by simp; omega) _).alloc (by simp; omega) _
theorem six_size (w : World) (o1 o2 o3 o4 o5 o6 : Obj) : ((((((w.alloc o1).alloc o2).alloc o3).alloc o4).alloc o5).alloc o6).heap.size = w.heap.size + 6 := by simp

/-- A store into the variable of a deferring function leaves a result's bytes as they are. -/
theorem out_kept {base O S : Nat} {w : World} {u : Value} {bs : List Int} (h : OutAt base O w bs) (hO : O ≠ S) (hS : S < base) : OutAt base O (w.setCell ⟨S, 0, none⟩ u) bs := by
  obtain ⟨ao, c, hb, ho⟩ := h
  refine ⟨ao, c, (Below.heap_setCell _ _ _ _ hO).trans hb, ?_⟩
  refine ho.kept (row := some S) ⟨rfl, rfl, rfl, by simp [World.setCell], fun k hk hne => Below.heap_setCell _ _ _ _ (fun e => hne (by simp [e]))⟩ (Or.inr ?_)
  exact (ne_own (T := 0) (cells := #[]) ho hS).symm

set_option maxHeartbeats 800000 in
set_option maxRecDepth 100000 in
theorem format_any (leap version mode stratum poll prec rd disp rid ref orig recv xmit : Int) (w : World)
    (bl0 : 0 ≤ leap) (bl1 : leap ≤ 3) (bv0 : 0 ≤ version) (bv1 : version ≤ 7) (bm0 : 0 ≤ mode) (bm1 : mode ≤ 7) (bs0 : 0 ≤ stratum) (bs1 : stratum ≤ 255) (bp0 : -128 ≤ poll) (bp1 : poll ≤ 127) (bc0 : -128 ≤ prec) (bc1 : prec ≤ 127)
    (r0 : 0 ≤ rd) (r1 : rd < 4294967296) (d0 : 0 ≤ disp) (d1 : disp < 4294967296) (i0 : 0 ≤ rid) (i1 : rid < 4294967296) :
    Calls Try.prog 22 #[.agg #[.int .i64 leap, .int .i64 version, .int .i64 mode, .int .i64 stratum, .int .i64 poll, .int .i64 prec, .int .u32 rd, .int .u32 disp, .int .u32 rid, .int .u64 ref, .int .u64 orig, .int .u64 recv, .int .u64 xmit]] w
      fun e w' => ∃ v, e = .returned (.tuple #[v, .bool true]) ∧ OwnAt w.heap.size w' v (bytes48 (first leap version mode) stratum poll prec rd disp rid ref orig recv xmit) ∧ Below w.heap.size w w' := by
  have HF := Keep.mk fun (H O : Nat) (v0 : Value) (W : World) hH hO => format1 leap version mode stratum poll prec rd disp rid ref orig recv xmit H O v0 W hH hO bl0 bl1 bs0 bs1 bp0 bp1 bc0 bc1 r0 r1 d0 d1 i0 i1
  clear r0 r1 d0 d1 i0 i1
  have hmf : ∀ (fn : Fn) (first cap : Array Value) (w : World), (Instr.makeFunc fn first cap).run Try.prog w = .ok (.func fn first cap) w := fun _ _ _ _ => rfl
  go_enter Try.func22, Try.ntmps22
  go_wp2_with fail
  refine (within1 _ _ leap _ _ (by go_simp) (by omega) (by omega)).mono ?_
  rintro e w1 ⟨rfl, rfl⟩
  go_wp2_with fail
  refine (within2 _ _ version mode _ _ (by go_simp) (by go_simp) (by omega) (by omega) (by omega) (by omega)).mono ?_
  rintro e w1 ⟨rfl, rfl⟩
  go_wp2_with fail
  refine (within1 _ _ stratum _ _ (by go_simp) (by omega) (by omega)).mono ?_
  rintro e w1 ⟨rfl, rfl⟩
  go_wp2_with fail
  refine (within2 _ _ poll prec _ _ (by go_simp) (by go_simp) (by omega) (by omega) (by omega) (by omega)).mono ?_
  rintro e w1 ⟨rfl, rfl⟩
  go_wp2_with fail
  obtain ⟨N, hN⟩ : ∃ N, N = w.heap.size := ⟨_, rfl⟩
  generalize hW : World.alloc _ _ = W0
  have hH : W0.heap[N]? = some (.cells (hdrCells leap version mode stratum poll prec rd disp rid ref orig recv xmit) 36 (0, 0)) := by
    subst hN
    rw [← hW]
    exact six_first _ _ _ _ _ _ _
  have hO : W0.heap[N + 1]? = some (.cells #[.slice none 0 0] 40 (0, 0)) := by
    subst hN
    rw [← hW]
    exact six_second _ _ _ _ _ _ _
  have hB : Below N w W0 := by
    subst hN
    rw [← hW]
    exact six_below _ _ _ _ _ _ _
  have hS : W0.heap.size = N + 6 := by
    subst hN
    rw [← hW]
    exact six_size _ _ _ _ _ _ _
  rw [← hN]
  have HN : Keep (N = w.heap.size) := ⟨hN⟩
  clear hW hN
  have hT : Keep (Calls Try.prog 50 #[.pointer (some ⟨N, 0, none⟩), .pointer (some ⟨N + 1, 0, none⟩)] (W0.alloc (.cells #[.bool false] 4)) fun e w' => e = .returned (.bool true) ∧ (OutAt (N + 7) (N + 1) w' (bytes48 (first leap version mode) stratum poll prec rd disp rid ref orig recv xmit) ∧ Ex (N + 7) (N + 1) (W0.alloc (.cells #[.bool false] 4)) w') ∧ w'.heap[W0.heap.size]? = some (.cells #[.bool false] 4 (0, 0))) := by
    refine ⟨(HF.out N (N + 1) _ _ ((Below.heap_alloc _ _ _ (by omega)).trans hH) ((Below.heap_alloc _ _ _ (by omega)).trans hO)).mono ?_⟩
    rintro e w' ⟨rfl, h1, h2⟩
    have e7 : (W0.alloc (.cells #[.bool false] 4)).heap.size = N + 7 := by simp; omega
    rw [e7] at h1 h2
    exact ⟨rfl, ⟨h1, h2⟩, (h2.block _ (by omega) (by omega)).trans (heap_alloc_new W0 _)⟩
  refine (try_format _ _ true W0 _ hT).mono ?_
  rintro e w3 ⟨rfl, w1, ⟨h1, h2⟩, hw3⟩
  rw [hS] at hw3
  have h3 : OutAt (N + 7) (N + 1) w3 (bytes48 (first leap version mode) stratum poll prec rd disp rid ref orig recv xmit) := by
    rw [hw3]
    exact out_kept h1 (by omega) (by omega)
  have h4 : Below N w w3 := by
    rw [hw3]
    have := ((h2.below (N := N) (by omega) (by omega)).setCell (p := ⟨N + 6, 0, none⟩) (by show N ≤ N + 6; omega) (.bool true))
    exact (hB.trans ((Below.refl N W0).alloc (by omega) _)).trans this
  clear hT HF hH hO hB hS hw3 h1 h2
  obtain ⟨ao, c, hb, ho⟩ := h3
  rw [bytes48_length] at hb ho
  have c0 := (cell_one hb).1
  have f0 := frozen_of_row w3 (N + 1) 0 _ _ hb
  have HQ : Keep (OwnAt N (w3.setCell ⟨N + 1, 0, none⟩ (.slice ao 48 c)) (.slice ao 48 c) (bytes48 (first leap version mode) stratum poll prec rd disp rid ref orig recv xmit)) := by
    obtain ⟨ao', c', hb', ho'⟩ := OutAt.stored (u := .slice ao 48 c) (base := N + 7) (B := N + 1) (by omega) (by rw [bytes48_length]) hb ho
    have : ao' = ao ∧ c' = c := by
      have e := hb'
      simp [World.setCell, Array.getElem?_modify, hb] at e
      exact ⟨e.1.symm, e.2.2.symm⟩
    obtain ⟨rfl, rfl⟩ := this
    exact ⟨⟨ao', c', by rw [bytes48_length], own_lower ho' (by omega)⟩⟩
  have HX : Keep (Below N w (w3.setCell ⟨N + 1, 0, none⟩ (.slice ao 48 c))) := ⟨h4.setCell (p := ⟨N + 1, 0, none⟩) (by show N ≤ N + 1; omega) _⟩
  have c1 : (w3.setCell ⟨N + 1, 0, none⟩ (.slice ao 48 c)).cell? ⟨N + 1, 0, none⟩ = some (.slice ao 48 c) := by
    simp [World.setCell, World.cell?, Array.getElem?_modify, hb]
  clear hb ho h4
  go_wp2_with fail
  refine bodyPost_ret (v := .tuple #[.slice ao 48 c, .bool true]) (by simp [results, Try.results22, go_sem, c1]) rfl ⟨_, rfl, HN.out ▸ HQ.out, HN.out ▸ HX.out⟩

end Go.Proofs.Ytaanpoankljblaa.FmtC
