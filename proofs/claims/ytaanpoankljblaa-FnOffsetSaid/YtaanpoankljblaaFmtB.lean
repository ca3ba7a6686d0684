/- impl.Format's inner function, and try around it. -/
import Derived.Test.YtaanpoankljblaaClone
import Derived.Defers
import Derived.Laws.EntriesVeiled
namespace Go.Proofs.Ytaanpoankljblaa.FmtB
open Go.RowKit Go.Proofs.Ytaanpoankljblaa.BufA Go.Proofs.Ytaanpoankljblaa.FmtA Go.Proofs.Ytaanpoankljblaa.Clone
set_option linter.unusedVariables false
set_option linter.unusedSimpArgs false

/-- A header, as a block holds it. -/
def hdrCells (leap version mode stratum poll prec rd disp rid ref orig recv xmit : Int) : Array Value :=
  #[.int .i64 leap, .int .i64 version, .int .i64 mode, .int .i64 stratum, .int .i64 poll, .int .i64 prec, .int .u32 rd, .int .u32 disp, .int .u32 rid, .int .u64 ref, .int .u64 orig, .int .u64 recv, .int .u64 xmit]

theorem cell_in {w : World} {B : Nat} {cs : Array Value} {T : TypeId} (h : w.heap[B]? = some (.cells cs T (0, 0))) (j : Nat) (v : Value) (hv : cs[j]? = some v) : w.cell? ⟨B, j, none⟩ = some v :=
  (cell_of_row w B j _ _ _ h).trans hv

/-- Block O (a variable of type []byte) holds a slice of the call's own bytes. -/
def OutAt (base O : Nat) (w : World) (bs : List Int) : Prop :=
  ∃ ao c, w.heap[O]? = some (.cells #[.slice ao bs.length c] 40 (0, 0)) ∧ w.ownsRow base 5 1 (.slice ao bs.length c) bs.length (bs.map (Value.int .u8))

theorem OutAt.stored {base B n : Nat} {w : World} {ao : Option Addr} {c : Nat} {u : Value} {bs : List Int} (hB : B < base) (hn : n = bs.length) (hb : w.heap[B]? = some (.cells #[u] 40 (0, 0)))
    (ho : w.ownsRow base 5 1 (.slice ao n c) n (bs.map (Value.int .u8))) : OutAt base B (w.setCell ⟨B, 0, none⟩ (.slice ao n c)) bs := by
  subst hn
  refine ⟨ao, c, ?_, ?_⟩
  · simp [World.setCell, Array.getElem?_modify, hb]
  · refine ho.kept (row := some B) ⟨rfl, rfl, rfl, by simp [World.setCell], fun k hk hne => Below.heap_setCell _ _ _ _ (fun e => hne (by simp [e]))⟩ (Or.inr ?_)
    exact (ne_own (T := 0) (cells := #[]) ho hB).symm

theorem Ex.of_below {N B : Nat} {w w' : World} (h : Below N w w') : Ex N B w w' := ⟨h.os, h.tape, h.output, h.size, fun k hk _ => h.block k hk⟩

theorem own_head {w : World} {base n c : Nat} {ao : Option Addr} {xs : List Value} (h : w.ownsRow base 5 1 (.slice ao n c) n xs) (hn : 0 < n) : ∃ g, ao = some ⟨g, 0, none⟩ := by
  rcases h.2 with ⟨_, h⟩ | ⟨g, cap, cur, h, _⟩
  · omega
  · injection h with h1
    exact ⟨g, h1⟩

theorem own_reads {w : World} {base n g c : Nat} {xs : List Value} (h : w.ownsRow base 5 1 (.slice (some ⟨g, 0, none⟩) n c) n xs) : ∀ j u, xs[j]? = some u → w.cell? ⟨g, j, none⟩ = some u := by
  intro j u hj
  have := h.cells (g := g) rfl j u hj
  rwa [show (⟨g, 0, none⟩ : Addr).add j = ⟨g, j, none⟩ by unfold Addr.add; split <;> simp_all] at this

set_option maxHeartbeats 400000 in
set_option maxRecDepth 100000 in
theorem format1 (leap version mode stratum poll prec rd disp rid ref orig recv xmit : Int) (H O : Nat) (v0 : Value) (w : World)
    (hH : w.heap[H]? = some (.cells (hdrCells leap version mode stratum poll prec rd disp rid ref orig recv xmit) 36 (0, 0))) (hO : w.heap[O]? = some (.cells #[v0] 40 (0, 0)))
    (bl0 : 0 ≤ leap) (bl1 : leap ≤ 3) (bs0 : 0 ≤ stratum) (bs1 : stratum ≤ 255) (bp0 : -128 ≤ poll) (bp1 : poll ≤ 127) (bc0 : -128 ≤ prec) (bc1 : prec ≤ 127)
    (r0 : 0 ≤ rd) (r1 : rd < 4294967296) (d0 : 0 ≤ disp) (d1 : disp < 4294967296) (i0 : 0 ≤ rid) (i1 : rid < 4294967296) :
    Calls Try.prog 50 #[.pointer (some ⟨H, 0, none⟩), .pointer (some ⟨O, 0, none⟩)] w fun e w' => e = .returned (.bool true) ∧ OutAt w.heap.size O w' (bytes48 (first leap version mode) stratum poll prec rd disp rid ref orig recv xmit) ∧ Ex w.heap.size O w w' := by
  have HZ := Keep.mk fun (a b c d e f : Int) W => zzformat a b c d e f rd disp rid ref orig recv xmit W r0 r1 d0 d1 i0 i1
  clear r0 r1 d0 d1 i0 i1
  have c0 : w.cell? ⟨H, 0, none⟩ = some (.int .i64 leap) := cell_in hH 0 _ rfl
  have c1 : w.cell? ⟨H, 1, none⟩ = some (.int .i64 version) := cell_in hH 1 _ rfl
  have c2 : w.cell? ⟨H, 2, none⟩ = some (.int .i64 mode) := cell_in hH 2 _ rfl
  have c3 : w.cell? ⟨H, 3, none⟩ = some (.int .i64 stratum) := cell_in hH 3 _ rfl
  have c4 : w.cell? ⟨H, 4, none⟩ = some (.int .i64 poll) := cell_in hH 4 _ rfl
  have c5 : w.cell? ⟨H, 5, none⟩ = some (.int .i64 prec) := cell_in hH 5 _ rfl
  have c6 : w.cell? ⟨H, 6, none⟩ = some (.int .u32 rd) := cell_in hH 6 _ rfl
  have c7 : w.cell? ⟨H, 7, none⟩ = some (.int .u32 disp) := cell_in hH 7 _ rfl
  have c8 : w.cell? ⟨H, 8, none⟩ = some (.int .u32 rid) := cell_in hH 8 _ rfl
  have c9 : w.cell? ⟨H, 9, none⟩ = some (.int .u64 ref) := cell_in hH 9 _ rfl
  have c10 : w.cell? ⟨H, 10, none⟩ = some (.int .u64 orig) := cell_in hH 10 _ rfl
  have c11 : w.cell? ⟨H, 11, none⟩ = some (.int .u64 recv) := cell_in hH 11 _ rfl
  have c12 : w.cell? ⟨H, 12, none⟩ = some (.int .u64 xmit) := cell_in hH 12 _ rfl
  have HH := Keep.mk hH
  have HO := Keep.mk hO
  clear hH hO
  go_enter Try.func50, Try.ntmps50
  go_wp2_with fail
  refine (HZ.out _ _ _ _ _ _ _).mono ?_
  rintro e w1 ⟨v, rfl, ⟨ao, c, rfl, ho⟩, hb1⟩
  rw [bytes48_length] at ho
  obtain ⟨g, rfl⟩ := own_head ho (by omega)
  have hlt := (ho.lt g rfl).2
  have HC := Keep.mk (clone_any g 48 c _ w1 (bytes48_length _ _ _ _ _ _ _ _ _ _ _) (by omega) hlt (own_reads ho))
  have H1 := Keep.mk hb1
  clear ho hb1 HZ HH c0 c1 c2 c3 c4 c5 c6 c7 c8 c9 c10 c11 c12
  go_wp2_with fail
  refine HC.out.mono ?_
  rintro e w2 ⟨v, rfl, ⟨ao, c2, rfl, ho⟩, hb2⟩
  have hOlt : O < w.heap.size := (Array.getElem?_eq_some_iff.1 HO.out).1
  have hO2 : w2.heap[O]? = some (.cells #[v0] 40 (0, 0)) := ((hb2.block O (Nat.lt_of_lt_of_le hOlt H1.out.size)).trans (H1.out.block O hOlt)).trans HO.out
  have HX : Keep (Below w.heap.size w w2) := ⟨H1.out.trans (hb2.mono H1.out.size)⟩
  rw [bytes48_length] at ho
  have k0 := (cell_one hO2).1
  have k1 := frozen_of_row w2 O 0 _ _ hO2
  have HQ : Keep (OutAt w.heap.size O (w2.setCell ⟨O, 0, none⟩ (.slice ao 48 c2)) (bytes48 (first leap version mode) stratum poll prec rd disp rid ref orig recv xmit)) :=
    ⟨OutAt.stored hOlt (by rw [bytes48_length]) hO2 (own_lower ho H1.out.size)⟩
  clear HC HO H1 hb2 ho hO2
  go_wp2_with fail
  go_ret
  exact ⟨rfl, HQ.out, (Ex.of_below HX.out).setCell _ _⟩
end Go.Proofs.Ytaanpoankljblaa.FmtB
