/- ZZParse: the header of an answer's bytes. -/
import Derived.Test.YtaanpoankljblaaRdC
import Derived.StillTailTactics
import Derived.IntWalk
import Derived.OwnWalk
namespace Go.Proofs.Ytaanpoankljblaa.RdD
open Go.RowKit Go.Proofs.Ytaanpoankljblaa.RdA Go.Proofs.Ytaanpoankljblaa.RdB Go.Proofs.Ytaanpoankljblaa.RdC
set_option linter.unusedVariables false
set_option linter.unusedSimpArgs false

theorem nxt {w W w' : World} (h : Below w.heap.size w W) (k : Below W.heap.size W w') : Below w.heap.size w w' := h.trans (k.mono h.size)
theorem alc {w W : World} (h : Below w.heap.size w W) (o : Obj) : Below w.heap.size w (W.alloc o) := h.alloc h.size o

theorem below_setRow {B : Nat} {a w : World} (h : Below B a w) {g : Nat} (hg : B ≤ g) (cs : Array Value) : Below B a (w.setRow g cs) :=
  h.trans ⟨rfl, rfl, rfl, by simp [World.setRow], fun k hk => setRow_other w g k cs (by omega)⟩

theorem zz_one (z0 z1 z2 z3 z4 z5 z6 z7 z8 z9 z10 z11 z12 : Int) : (#[Value.int .u8 z0, .int .i64 z1, .int .i64 z2, .int .u8 z3, .int .i8 z4, .int .i8 z5, .int .u32 z6, .int .u32 z7, .int .u32 z8, .int .u64 z9, .int .u64 z10, .int .u64 z11, .int .u64 z12] : Array Value).all (·.oneCell') = true := by kernel_rfl
theorem zz_info : (Try.prog.info? 81).map (·.size) = some 13 := by kernel_rfl
theorem zz_cells {z0 z1 z2 z3 z4 z5 z6 z7 z8 z9 z10 z11 z12 : Int} {w : World} {B : Nat} {T : TypeId} (h : w.heap[B]? = some (.cells #[.int .u8 z0, .int .i64 z1, .int .i64 z2, .int .u8 z3, .int .i8 z4, .int .i8 z5, .int .u32 z6, .int .u32 z7, .int .u32 z8, .int .u64 z9, .int .u64 z10, .int .u64 z11, .int .u64 z12] T (0, 0))) :
    w.cell? ⟨B, 0, none⟩ = some (.int .u8 z0) ∧ w.cell? ⟨B, 1, none⟩ = some (.int .i64 z1) ∧ w.cell? ⟨B, 2, none⟩ = some (.int .i64 z2) ∧ w.cell? ⟨B, 3, none⟩ = some (.int .u8 z3) ∧ w.cell? ⟨B, 4, none⟩ = some (.int .i8 z4) ∧ w.cell? ⟨B, 5, none⟩ = some (.int .i8 z5) ∧ w.cell? ⟨B, 6, none⟩ = some (.int .u32 z6) ∧ w.cell? ⟨B, 7, none⟩ = some (.int .u32 z7) ∧ w.cell? ⟨B, 8, none⟩ = some (.int .u32 z8) ∧ w.cell? ⟨B, 9, none⟩ = some (.int .u64 z9) ∧ w.cell? ⟨B, 10, none⟩ = some (.int .u64 z10) ∧ w.cell? ⟨B, 11, none⟩ = some (.int .u64 z11) ∧ w.cell? ⟨B, 12, none⟩ = some (.int .u64 z12) :=
  ⟨(cell_of_row w B 0 _ _ _ h).trans rfl, (cell_of_row w B 1 _ _ _ h).trans rfl, (cell_of_row w B 2 _ _ _ h).trans rfl, (cell_of_row w B 3 _ _ _ h).trans rfl, (cell_of_row w B 4 _ _ _ h).trans rfl, (cell_of_row w B 5 _ _ _ h).trans rfl, (cell_of_row w B 6 _ _ _ h).trans rfl, (cell_of_row w B 7 _ _ _ h).trans rfl, (cell_of_row w B 8 _ _ _ h).trans rfl, (cell_of_row w B 9 _ _ _ h).trans rfl, (cell_of_row w B 10 _ _ _ h).trans rfl, (cell_of_row w B 11 _ _ _ h).trans rfl, (cell_of_row w B 12 _ _ _ h).trans rfl⟩

/-- The header that ZZParse gives. -/
def zz (f stratum poll prec rd disp rid ref orig recv xmit : Int) : Value := .agg #[.int .u8 (f / 64 % 4), .int .i64 (f / 8 % 8), .int .i64 (f % 8), .int .u8 stratum, .int .i8 poll, .int .i8 prec, .int .u32 rd, .int .u32 disp, .int .u32 rid, .int .u64 ref, .int .u64 orig, .int .u64 recv, .int .u64 xmit]

/-- What ZZParse answers. -/
def ZParsed (w0 : World) (f stratum poll prec rd disp rid ref orig recv xmit : Int) (e : Ending) (w : World) : Prop :=
  (if f % 8 = 4 ∧ xmit ≠ 0 ∧ recv ≤ xmit then e = .returned (.tuple #[zz f stratum poll prec rd disp rid ref orig recv xmit, .nilIface])
   else ∃ s, e = .returned (.tuple #[.agg #[.int .u8 0, .int .i64 0, .int .i64 0, .int .u8 0, .int .i8 0, .int .i8 0, .int .u32 0, .int .u32 0, .int .u32 0, .int .u64 0, .int .u64 0, .int .u64 0, .int .u64 0], .iface 130 (.string s)])) ∧ Below w0.heap.size w0 w

set_option maxHeartbeats 1600000 in
set_option maxRecDepth 100000 in
theorem zzparse_any (g n c : Nat) (f stratum poll prec rd disp rid ref orig recv xmit : Int) (w : World) (hn : 48 ≤ n) (hnc : n ≤ c) (hc : c ≤ 9223372036854775807) (hg : g < w.heap.size) (fits : Fits f stratum poll prec rd disp rid ref orig recv xmit) (hd : Hdr w g f stratum poll prec rd disp rid ref orig recv xmit) :
    Calls Try.prog 54 #[.slice (some ⟨g, 0, none⟩) n c] w (ZParsed w f stratum poll prec rd disp rid ref orig recv xmit) := by
  have HP := Keep.mk fun (W : World) hgW hdW => parse_any g n c f stratum poll prec rd disp rid ref orig recv xmit W hn hnc hc hgW fits hdW
  have HD := Keep.mk hd
  have HF := Keep.mk fits
  clear fits hd hn hnc hc
  go_enter Try.func54, Try.ntmps54
  go_wp2_with fail
  refine (HP.out _ (by simp; omega) (HD.out.same (Below.heap_alloc _ _ _ hg))).mono ?_
  rintro e w1 ⟨he, hb⟩
  have HB := Keep.mk (nxt (alc (Below.refl _ _) _) hb)
  have hN : w1.heap[w.heap.size]? = some (.cells #[.int .u8 0, .int .i64 0, .int .i64 0, .int .u8 0, .int .i8 0, .int .i8 0, .int .u32 0, .int .u32 0, .int .u32 0, .int .u64 0, .int .u64 0, .int .u64 0, .int .u64 0] 81 (0, 0)) := (hb.block _ (by simp)).trans (heap_alloc_new w _)
  obtain ⟨N, hNs⟩ : ∃ N, N = w.heap.size := ⟨_, rfl⟩
  rw [← hNs] at hN ⊢
  have HN := Keep.mk hN
  have HNs := Keep.mk hNs
  clear HP HD hb hg hN hNs
  by_cases h : f % 8 = 4 ∧ xmit ≠ 0 ∧ recv ≤ xmit
  · rw [if_pos h] at he
    obtain ⟨M, rfl, hM, hl⟩ := he
    have hMN : N < M := by
      rw [HNs.out]
      simp at hl
      omega
    have HH := Keep.mk h
    clear h hl
    have HM := Keep.mk hM
    clear hM
    go_wp2_with fail
    refine wp_region_still_tail 48 (by kernel_rfl) (by kernel_rfl) ?_
    change wpStill _ _ w1.drew (fun a' => wpList _ _ _ _ a' w1.drew) _ _
    simp only [List.take_succ_cons, List.take_zero, List.drop_succ_cons, List.drop_zero]
    generalize hW : w1.drew = W2
    have HM2 : Keep (W2.heap[M]? = some (.cells (msg f stratum poll prec rd disp rid ref orig recv xmit) 105 (0, 0))) := ⟨by rw [← hW]; exact HM.out⟩
    have HN2 : Keep (W2.heap[N]? = some (.cells #[.int .u8 0, .int .i64 0, .int .i64 0, .int .u8 0, .int .i8 0, .int .i8 0, .int .u32 0, .int .u32 0, .int .u32 0, .int .u64 0, .int .u64 0, .int .u64 0, .int .u64 0] 81 (0, 0))) := ⟨by rw [← hW]; exact HN.out⟩
    have HB2 : Keep (Below w.heap.size w W2) := ⟨by rw [← hW]; exact HB.out.drew⟩
    clear hW HM HN HB
    have m0 : W2.cell? ⟨M, 0, none⟩ = some (.int .u8 f) := (cell_of_row W2 M 0 _ _ _ HM2.out).trans rfl
    have m1 : W2.cell? ⟨M, 1, none⟩ = some (.int .u8 stratum) := (cell_of_row W2 M 1 _ _ _ HM2.out).trans rfl
    have m2 : W2.cell? ⟨M, 2, none⟩ = some (.int .i8 poll) := (cell_of_row W2 M 2 _ _ _ HM2.out).trans rfl
    have m3 : W2.cell? ⟨M, 3, none⟩ = some (.int .i8 prec) := (cell_of_row W2 M 3 _ _ _ HM2.out).trans rfl
    have m4 : W2.cell? ⟨M, 4, none⟩ = some (.int .u32 rd) := (cell_of_row W2 M 4 _ _ _ HM2.out).trans rfl
    have m5 : W2.cell? ⟨M, 5, none⟩ = some (.int .u32 disp) := (cell_of_row W2 M 5 _ _ _ HM2.out).trans rfl
    have m6 : W2.cell? ⟨M, 6, none⟩ = some (.int .u32 rid) := (cell_of_row W2 M 6 _ _ _ HM2.out).trans rfl
    have m7 : W2.cell? ⟨M, 7, none⟩ = some (.int .u64 ref) := (cell_of_row W2 M 7 _ _ _ HM2.out).trans rfl
    have m8 : W2.cell? ⟨M, 8, none⟩ = some (.int .u64 orig) := (cell_of_row W2 M 8 _ _ _ HM2.out).trans rfl
    have m9 : W2.cell? ⟨M, 9, none⟩ = some (.int .u64 recv) := (cell_of_row W2 M 9 _ _ _ HM2.out).trans rfl
    have m10 : W2.cell? ⟨M, 10, none⟩ = some (.int .u64 xmit) := (cell_of_row W2 M 10 _ _ _ HM2.out).trans rfl
    have hf8 : (0 : Int) ≤ f % 8 := by omega
    have hf9 : f % 8 < 8 := by omega
    have hfw : IntKind.i64.wrap (f % 8) = f % 8 := IntWalk.i64_in _ (by omega)
    repeat still_step
    still_call ((get_leap M f W2 HF.out.l0 HF.out.u0 m0).mono fun _ _ h => ⟨h.1, h.2.symm⟩)
    repeat still_step
    still_call ((get_version M f W2 HF.out.l0 HF.out.u0 m0).mono fun _ _ h => ⟨h.1, h.2.symm⟩)
    repeat still_step
    still_call ((get_mode M f W2 HF.out.l0 HF.out.u0 m0).mono fun _ _ h => ⟨h.1, h.2.symm⟩)
    repeat still_step
    refine wpStill_nil ?_
    clear m0 m1 m2 m3 m4 m5 m6 m7 m8 m9 m10 hfw
    refine wpList_store_row (by rfl) 81 (.tmp 2) (.tmp 62) (by rfl) N #[.int .u8 (f / 64 % 4), .int .i64 (f / 8 % 8), .int .i64 (f % 8), .int .u8 stratum, .int .i8 poll, .int .i8 prec, .int .u32 rd, .int .u32 disp, .int .u32 rid, .int .u64 ref, .int .u64 orig, .int .u64 recv, .int .u64 xmit] (by rfl) (by rfl) 81 _ HN2.out zz_info rfl (zz_one _ _ _ _ _ _ _ _ _ _ _ _ _) ?_
    have HB3 := Keep.mk (below_setRow HB2.out (g := N) (by rw [HNs.out]; exact Nat.le_refl _) #[.int .u8 (f / 64 % 4), .int .i64 (f / 8 % 8), .int .i64 (f % 8), .int .u8 stratum, .int .i8 poll, .int .i8 prec, .int .u32 rd, .int .u32 disp, .int .u32 rid, .int .u64 ref, .int .u64 orig, .int .u64 recv, .int .u64 xmit])
    obtain ⟨c0, c1, c2, c3, c4, c5, c6, c7, c8, c9, c10, c11, c12⟩ := zz_cells (setRow_heap W2 N _ #[.int .u8 (f / 64 % 4), .int .i64 (f / 8 % 8), .int .i64 (f % 8), .int .u8 stratum, .int .i8 poll, .int .i8 prec, .int .u32 rd, .int .u32 disp, .int .u32 rid, .int .u64 ref, .int .u64 orig, .int .u64 recv, .int .u64 xmit] 81 (0, 0) HN2.out)
    clear HM2 HN2 HB2
    go_wp2_with fail
    refine bodyPost_ret (v := .tuple #[zz f stratum poll prec rd disp rid ref orig recv xmit, .nilIface]) (by simp [results, Try.results54, go_sem, zz, c0, c1, c2, c3, c4, c5, c6, c7, c8, c9, c10, c11, c12]) rfl ?_
    unfold ZParsed
    rw [if_pos HH.out]
    exact ⟨rfl, HB3.out⟩
  · rw [if_neg h] at he
    obtain ⟨s, rfl⟩ := he
    have HH := Keep.mk h
    clear h
    go_wp2_with ((refine wpList_store_row rfl 81 (.tmp 2) (.tmp 13) rfl N #[.int .u8 0, .int .i64 0, .int .i64 0, .int .u8 0, .int .i8 0, .int .i8 0, .int .u32 0, .int .u32 0, .int .u32 0, .int .u64 0, .int .u64 0, .int .u64 0, .int .u64 0] rfl rfl 81 _ HN.out zz_info rfl (zz_one _ _ _ _ _ _ _ _ _ _ _ _ _) ?_))
    obtain ⟨c0, c1, c2, c3, c4, c5, c6, c7, c8, c9, c10, c11, c12⟩ := zz_cells (setRow_heap w1 N _ #[.int .u8 0, .int .i64 0, .int .i64 0, .int .u8 0, .int .i8 0, .int .i8 0, .int .u32 0, .int .u32 0, .int .u32 0, .int .u64 0, .int .u64 0, .int .u64 0, .int .u64 0] 81 (0, 0) HN.out)
    have HB2 := Keep.mk (below_setRow HB.out (g := N) (by rw [HNs.out]; exact Nat.le_refl _) #[.int .u8 0, .int .i64 0, .int .i64 0, .int .u8 0, .int .i8 0, .int .i8 0, .int .u32 0, .int .u32 0, .int .u32 0, .int .u64 0, .int .u64 0, .int .u64 0, .int .u64 0])
    go_wp2_with fail
    refine bodyPost_ret (v := .tuple #[.agg #[.int .u8 0, .int .i64 0, .int .i64 0, .int .u8 0, .int .i8 0, .int .i8 0, .int .u32 0, .int .u32 0, .int .u32 0, .int .u64 0, .int .u64 0, .int .u64 0, .int .u64 0], .iface 130 (.string s)]) (by simp [results, Try.results54, go_sem, c0, c1, c2, c3, c4, c5, c6, c7, c8, c9, c10, c11, c12]) rfl ?_
    unfold ZParsed
    rw [if_neg HH.out]
    exact ⟨⟨s, rfl⟩, HB2.out⟩

set_option maxHeartbeats 1600000 in
set_option maxRecDepth 100000 in
theorem zzparse_short (A : Option Addr) (n c : Nat) (w : World) (hn : n < 48) :
    Calls Try.prog 54 #[.slice A n c] w fun e w' => (∃ s, e = .returned (.tuple #[.agg #[.int .u8 0, .int .i64 0, .int .i64 0, .int .u8 0, .int .i8 0, .int .i8 0, .int .u32 0, .int .u32 0, .int .u32 0, .int .u64 0, .int .u64 0, .int .u64 0, .int .u64 0], .iface 130 (.string s)])) ∧ Below w.heap.size w w' := by
  have HP := Keep.mk fun (W : World) => parse_short A n c W hn
  clear hn
  go_enter Try.func54, Try.ntmps54
  go_wp2_with fail
  refine (HP.out _).mono ?_
  rintro e w1 ⟨⟨s, rfl⟩, rfl⟩
  go_wp2_with fail
  refine bodyPost_ret (v := .tuple #[.agg #[.int .u8 0, .int .i64 0, .int .i64 0, .int .u8 0, .int .i8 0, .int .i8 0, .int .u32 0, .int .u32 0, .int .u32 0, .int .u64 0, .int .u64 0, .int .u64 0, .int .u64 0], .iface 130 (.string s)]) (by simp [results, Try.results54, go_sem]) rfl ?_
  exact ⟨⟨s, rfl⟩, by repeat (first | exact Below.refl _ _ | apply Below.drew | (refine Below.alloc ?_ (by simp) _) | (refine Below.setCell ?_ (by simp) _))⟩

end Go.Proofs.Ytaanpoankljblaa.RdD
