/- FnFormat returns true at every header. -/
import Derived.Test.YtaanpoankljblaaBytes
import Derived.Test.YtaanpoankljblaaProper
import Derived.Test.YtaanpoankljblaaWorks
import Derived.Laws.BytesArg
import Derived.Deep.RegionHeld3
namespace Go.Proofs.Ytaanpoankljblaa.FmtD
open Go.RowKit Go.Proofs.Ytaanpoankljblaa.BufA Go.Proofs.Ytaanpoankljblaa.FmtA Go.Proofs.Ytaanpoankljblaa.FmtB Go.Proofs.Ytaanpoankljblaa.Proper
set_option linter.unusedVariables false
set_option linter.unusedSimpArgs false

/-- string(b) of bytes of the call's own. -/
theorem own_string {w : World} {base n c : Nat} {ao : Option Addr} {bs : List Int} (hn : 0 < n) (hl : bs.length = n) (h : w.ownsRow base 5 1 (.slice ao n c) n (bs.map (Value.int .u8))) :
    (convert 40 9 (.slice ao n c)).run Try.prog w = .ok (.string (strOfNums bs)) w := by
  obtain ⟨g, rfl⟩ := own_head h hn
  refine run_convert_bytes_arg _ 40 5 Try.underlying40 Try.underlying5 g 0 n c bs hl (fun i hi => ?_) 9 Try.underlying9
  rw [Nat.zero_add]
  refine own_reads h i _ ?_
  simp [List.getD_eq_getElem?_getD, List.getElem?_eq_getElem (show i < bs.length by omega)]

theorem own_below {w w' : World} {base n : Nat} {v : Value} {xs : List Value} (h : w.ownsRow base 5 1 v n xs) (hb : Below w.heap.size w w') : w'.ownsRow base 5 1 v n xs :=
  ⟨h.1, by
    rcases h.2 with hn | ⟨g, cap, cur, rfl, hbg, hg, rest⟩
    · exact .inl hn
    · exact .inr ⟨g, cap, cur, rfl, hbg, (hb.block g (Array.getElem?_eq_some_iff.1 hg).1).trans hg, rest⟩⟩

theorem nxt {w W w' : World} (h : Below w.heap.size w W) (k : Below W.heap.size W w') : Below w.heap.size w w' := h.trans (k.mono h.size)
theorem alc {w W : World} (h : Below w.heap.size w W) (o : Obj) : Below w.heap.size w (W.alloc o) := h.alloc h.size o

theorem hdr_cells {leap version mode stratum poll prec rd disp rid ref orig recv xmit : Int} {w : World} {B : Nat} {T : TypeId} (h : w.heap[B]? = some (.cells (hdrCells leap version mode stratum poll prec rd disp rid ref orig recv xmit) T (0, 0))) :
    w.cell? ⟨B, 0, none⟩ = some (.int .i64 leap) ∧ w.cell? ⟨B, 1, none⟩ = some (.int .i64 version) ∧ w.cell? ⟨B, 2, none⟩ = some (.int .i64 mode) ∧ w.cell? ⟨B, 3, none⟩ = some (.int .i64 stratum) ∧ w.cell? ⟨B, 4, none⟩ = some (.int .i64 poll) ∧ w.cell? ⟨B, 5, none⟩ = some (.int .i64 prec) ∧ w.cell? ⟨B, 6, none⟩ = some (.int .u32 rd) ∧ w.cell? ⟨B, 7, none⟩ = some (.int .u32 disp) ∧ w.cell? ⟨B, 8, none⟩ = some (.int .u32 rid) ∧ w.cell? ⟨B, 9, none⟩ = some (.int .u64 ref) ∧ w.cell? ⟨B, 10, none⟩ = some (.int .u64 orig) ∧ w.cell? ⟨B, 11, none⟩ = some (.int .u64 recv) ∧ w.cell? ⟨B, 12, none⟩ = some (.int .u64 xmit) :=
  ⟨cell_in h 0 _ rfl, cell_in h 1 _ rfl, cell_in h 2 _ rfl, cell_in h 3 _ rfl, cell_in h 4 _ rfl, cell_in h 5 _ rfl, cell_in h 6 _ rfl, cell_in h 7 _ rfl, cell_in h 8 _ rfl, cell_in h 9 _ rfl, cell_in h 10 _ rfl, cell_in h 11 _ rfl, cell_in h 12 _ rfl⟩

set_option maxHeartbeats 800000 in
set_option maxRecDepth 100000 in
theorem law_no (leap version mode stratum poll prec rd disp rid ref orig recv xmit : Int) (w : World) (hp : properB leap version mode stratum poll prec = false) :
    Calls Try.prog 5 #[.agg #[.int .i64 leap, .int .i64 version, .int .i64 mode, .int .i64 stratum, .int .i64 poll, .int .i64 prec, .int .u32 rd, .int .u32 disp, .int .u32 rid, .int .u64 ref, .int .u64 orig, .int .u64 recv, .int .u64 xmit]] w
      fun e w' => e = .returned (.bool true) ∧ Below w.heap.size w w' := by
  have HP := Keep.mk hp
  clear hp
  go_enter Try.func5, Try.ntmps5
  go_wp2_with fail
  refine (header_any _ _ _ _ _ _ _ _ _ _ _ _ _ _).mono ?_
  rintro e w1 ⟨rfl, hb1⟩
  go_wp2_with fail
  refine (proper_any _ _ _ _ _ _ _ _ _ _ _ _ _ _).mono ?_
  rintro e w2 ⟨rfl, hb2⟩
  rw [HP.out]
  go_wp2_with fail
  refine (Works.works_any _).mono ?_
  rintro e w3 ⟨rfl, hb3⟩
  go_wp2_with fail
  go_ret
  exact ⟨rfl, nxt (nxt (alc (nxt (alc (Below.refl _ _) _) hb1) _) hb2) hb3⟩

theorem after_bytes {leap version mode stratum poll prec rd disp rid ref orig recv xmit : Int} {w w3 w4 : World} {X b b2 c k2 : Nat} {ao ao2 : Option Addr} {bs : List Int} {s : ByteArray} (hs : s = strOfNums bs) (hl : bs.length = 48)
    (HO : w3.ownsRow b 5 1 (.slice ao bs.length c) bs.length (bs.map (Value.int .u8))) (ho2 : w4.ownsRow b2 5 1 (.slice ao2 bs.length k2) bs.length (bs.map (Value.int .u8)))
    (hb4 : Below w3.drew.heap.size w3.drew w4) (hb3 : Below w.heap.size w w3) (h37 : w3.heap[X]? = some (.cells (hdrCells leap version mode stratum poll prec rd disp rid ref orig recv xmit) 37 (0, 0))) :
    (convert 40 9 (.slice ao2 bs.length k2)).run Try.prog w4 = .ok (.string s) w4 ∧ (convert 40 9 (.slice ao bs.length c)).run Try.prog w4 = .ok (.string s) w4 ∧ Keep (Below w.heap.size w w4) ∧
    w4.cell? ⟨X, 0, none⟩ = some (.int .i64 leap) ∧ w4.cell? ⟨X, 1, none⟩ = some (.int .i64 version) ∧ w4.cell? ⟨X, 2, none⟩ = some (.int .i64 mode) ∧ w4.cell? ⟨X, 3, none⟩ = some (.int .i64 stratum) ∧ w4.cell? ⟨X, 4, none⟩ = some (.int .i64 poll) ∧ w4.cell? ⟨X, 5, none⟩ = some (.int .i64 prec) ∧ w4.cell? ⟨X, 6, none⟩ = some (.int .u32 rd) ∧ w4.cell? ⟨X, 7, none⟩ = some (.int .u32 disp) ∧ w4.cell? ⟨X, 8, none⟩ = some (.int .u32 rid) ∧ w4.cell? ⟨X, 9, none⟩ = some (.int .u64 ref) ∧ w4.cell? ⟨X, 10, none⟩ = some (.int .u64 orig) ∧ w4.cell? ⟨X, 11, none⟩ = some (.int .u64 recv) ∧ w4.cell? ⟨X, 12, none⟩ = some (.int .u64 xmit) := by
  subst hs
  replace hb4 : Below w3.heap.size w3 w4 := ⟨hb4.os, hb4.tape, hb4.output, hb4.size, hb4.block⟩
  refine ⟨own_string (by omega) rfl ho2, own_string (by omega) rfl (own_below HO hb4), ⟨nxt hb3 hb4⟩, ?_⟩
  exact hdr_cells ((hb4.block X (Array.getElem?_eq_some_iff.1 h37).1).trans h37)

set_option maxHeartbeats 1600000 in
set_option maxRecDepth 100000 in
theorem law_yes (leap version mode stratum poll prec rd disp rid ref orig recv xmit : Int) (w : World) (hp : properB leap version mode stratum poll prec = true)
    (r0 : 0 ≤ rd) (r1 : rd < 4294967296) (d0 : 0 ≤ disp) (d1 : disp < 4294967296) (i0 : 0 ≤ rid) (i1 : rid < 4294967296) :
    Calls Try.prog 5 #[.agg #[.int .i64 leap, .int .i64 version, .int .i64 mode, .int .i64 stratum, .int .i64 poll, .int .i64 prec, .int .u32 rd, .int .u32 disp, .int .u32 rid, .int .u64 ref, .int .u64 orig, .int .u64 recv, .int .u64 xmit]] w
      fun e w' => e = .returned (.bool true) ∧ Below w.heap.size w w' := by
  have hq := of_decide_eq_true hp
  obtain ⟨⟨bl0, bl1⟩, hv, ⟨bm0, bm1⟩, ⟨bs0, bs1⟩, ⟨bp0, bp1⟩, ⟨bc0, bc1⟩⟩ := hq
  have bv0 : 0 ≤ version := by omega
  have bv1 : version ≤ 7 := by omega
  have HF := Keep.mk fun W => FmtC.format_any leap version mode stratum poll prec rd disp rid ref orig recv xmit W bl0 bl1 bv0 bv1 bm0 bm1 bs0 bs1 bp0 bp1 bc0 bc1 r0 r1 d0 d1 i0 i1
  have HY := Keep.mk fun W => Bytes.bytes_any leap version mode stratum poll prec rd disp rid ref orig recv xmit W bl0 bl1 bv0 bv1 bm0 bm1 bs0 bs1 bp0 bp1 bc0 bc1 r0 r1 d0 d1 i0 i1
  generalize hbs : bytes48 (first leap version mode) stratum poll prec rd disp rid ref orig recv xmit = bs at HF HY
  have HL : Keep (bs.length = 48) := ⟨by rw [← hbs]; exact bytes48_length _ _ _ _ _ _ _ _ _ _ _⟩
  have HP := Keep.mk hp
  clear hp hbs bl0 bl1 hv bm0 bm1 bs0 bs1 bp0 bp1 bc0 bc1 bv0 bv1 r0 r1 d0 d1 i0 i1
  go_enter Try.func5, Try.ntmps5
  go_wp2_with fail
  refine (header_any _ _ _ _ _ _ _ _ _ _ _ _ _ _).mono ?_
  rintro e w1 ⟨rfl, hb1⟩
  have HB1 := Keep.mk (nxt (alc (Below.refl _ _) _) hb1)
  have H36 : Keep (w1.heap[w.heap.size]? = some (.cells (hdrCells leap version mode stratum poll prec rd disp rid ref orig recv xmit) 36 (0, 0))) := ⟨(hb1.block _ (by simp)).trans (heap_alloc_new w _)⟩
  clear hb1
  go_wp2_with fail
  refine (proper_any _ _ _ _ _ _ _ _ _ _ _ _ _ _).mono ?_
  rintro e w2 ⟨rfl, hb2⟩
  have hlt : w.heap.size < w1.heap.size := (Array.getElem?_eq_some_iff.1 H36.out).1
  have HB2 := Keep.mk (nxt (alc HB1.out _) hb2)
  have K36 := Keep.mk ((hb2.block w.heap.size (by simp; omega)).trans ((Below.heap_alloc _ _ _ hlt).trans H36.out))
  have K37 : Keep (w2.heap[w1.heap.size]? = some (.cells (hdrCells leap version mode stratum poll prec rd disp rid ref orig recv xmit) 37 (0, 0))) := ⟨(hb2.block _ (by simp)).trans (heap_alloc_new w1 _)⟩
  clear hb2 HB1 H36
  rw [HP.out]
  obtain ⟨c0, c1, c2, c3, c4, c5, c6, c7, c8, c9, c10, c11, c12⟩ := hdr_cells K36.out
  go_wp2_with fail
  refine (HF.out _).mono ?_
  rintro e w3 ⟨v, rfl, ⟨ao, c, rfl, ho⟩, hb3⟩
  have HB3 := Keep.mk (nxt HB2.out hb3)
  have J37 := Keep.mk ((hb3.block w1.heap.size (Array.getElem?_eq_some_iff.1 K37.out).1).trans K37.out)
  have HO := Keep.mk ho
  clear ho hb3 HB2 K36 K37 HF c0 c1 c2 c3 c4 c5 c6 c7 c8 c9 c10 c11 c12
  obtain ⟨X, hX⟩ : ∃ X, X = w1.heap.size := ⟨_, rfl⟩
  rw [← hX] at J37 ⊢
  obtain ⟨s, hs⟩ : ∃ s, s = strOfNums bs := ⟨_, rfl⟩
  have HSt := Keep.mk hs
  clear hX hs
  obtain ⟨c0, c1, c2, c3, c4, c5, c6, c7, c8, c9, c10, c11, c12⟩ := hdr_cells J37.out
  have hst : (convert 40 9 (.slice ao bs.length c)).run Try.prog w3 = .ok (.string s) w3 := by
    rw [HSt.out]
    exact own_string (by rw [HL.out]; omega) rfl HO.out
  have hstd : (convert 40 9 (.slice ao bs.length c)).run Try.prog w3.drew = .ok (.string s) w3.drew := by
    rw [HSt.out]
    exact own_string (w := w3.drew) (by rw [HL.out]; omega) rfl HO.out
  go_wp2_with fail
  go_region_with (first | (go_at_call 23; refine (HY.out _).mono ?_; rintro e w4 ⟨v2, rfl, ⟨ao2, k2, rfl, ho2⟩, hb4⟩; obtain ⟨hs2, hs1, HB4, f0, f1, f2, f3, f4, f5, f6, f7, f8, f9, f10, f11, f12⟩ := after_bytes HSt.out HL.out HO.out ho2 hb4 HB3.out J37.out; clear ho2 hb4) | (go_at_call 13; refine (Works.works_any _).mono ?_; rintro e w5 ⟨rfl, hb5⟩; have HB5 := Keep.mk (nxt HB4.out hb5); clear hb5))
  all_goals
    go_wp2_with fail
    go_ret
    exact ⟨rfl, HB5.out⟩

end Go.Proofs.Ytaanpoankljblaa.FmtD
