/- impl.Parse's inner function. -/
import Derived.Test.YtaanpoankljblaaRdE
import Derived.Test.YtaanpoankljblaaProper
namespace Go.Proofs.Ytaanpoankljblaa.RdF
open Go.RowKit Go.Proofs.Ytaanpoankljblaa.RdA Go.Proofs.Ytaanpoankljblaa.RdC Go.Proofs.Ytaanpoankljblaa.RdD Go.Proofs.Ytaanpoankljblaa.RdE Go.Proofs.Ytaanpoankljblaa.FmtA Go.Proofs.Ytaanpoankljblaa.FmtB
set_option linter.unusedVariables false
set_option linter.unusedSimpArgs false

/-- Is a header one of an answer's? -/
def ansB (f recv xmit : Int) : Prop := f % 8 = 4 ∧ xmit ≠ 0 ∧ recv ≤ xmit

/-- A header's block, written or not. -/
def HdrAt (w : World) (B : Nat) (cs : Array Value) : Prop := w.heap[B]? = some (.cells cs 36 (0, 0))

theorem lies_map {w : World} {g : Nat} {bs : List Int} (h : Lies w g 0 bs) : ∀ j u, (bs.map (Value.int .u8))[j]? = some u → w.cell? ⟨g, j, none⟩ = some u := by
  intro j u hj
  rw [List.getElem?_map] at hj
  obtain ⟨x, hx, rfl⟩ := Option.map_eq_some_iff.1 hj
  simpa using h j x hx
theorem lies_own {w : World} {base n g c : Nat} {bs : List Int} (h : w.ownsRow base 5 1 (.slice (some ⟨g, 0, none⟩) n c) n (bs.map (Value.int .u8))) : Lies w g 0 bs := by
  intro j x hj
  rw [Nat.zero_add]
  exact own_reads h j _ (by rw [List.getElem?_map, hj]; rfl)

theorem own_cap {w : World} {base n c : Nat} {ao : Option Addr} {xs : List Value} (h : w.ownsRow base 5 1 (.slice ao n c) n xs) : n ≤ c ∧ c ≤ 9223372036854775807 := by
  rcases h.2 with ⟨h1, h2⟩ | ⟨g, cap, cur, h1, _, _, h2, h3, _⟩
  · injection h1 with _ h4 h5
    omega
  · injection h1 with _ _ h5
    simp only [maxLen] at h3
    omega

theorem ex_setRow {N B : Nat} {w0 w : World} (h : BufA.Ex N B w0 w) (cs : Array Value) : BufA.Ex N B w0 (w.setRow B cs) :=
  h.trans ⟨rfl, rfl, rfl, by simp [World.setRow], fun k _ hB => setRow_other w B k cs hB⟩

theorem hdr36_info : (Try.prog.info? 36).map (·.size) = some 13 := by kernel_rfl
theorem hdr36_one (z0 z1 z2 z3 z4 z5 z6 z7 z8 z9 z10 z11 z12 : Int) : (hdrCells z0 z1 z2 z3 z4 z5 z6 z7 z8 z9 z10 z11 z12).all (·.oneCell') = true := by kernel_rfl

theorem neq_err (v : Value) (w : World) : (binOp .neq 85 (.iface 130 v) .nilIface).run Try.prog w = .ok (.bool true) w := by kernel_rfl
theorem neq_nil (w : World) : (binOp .neq 85 .nilIface .nilIface).run Try.prog w = .ok (.bool false) w := by kernel_rfl

/-- The answer is a header: it is written into block B. -/
def Filled (w0 : World) (B : Nat) (f stratum poll prec rd disp rid ref orig recv xmit : Int) (e : Ending) (w : World) : Prop :=
  e = .returned (.bool true) ∧ HdrAt w B (hdrCells (f / 64 % 4) (f / 8 % 8) (f % 8) stratum poll prec rd disp rid ref orig recv xmit) ∧ BufA.Ex w0.heap.size B w0 w
/-- The answer is none: nothing that was there has turned. -/
def Empty (w0 : World) (e : Ending) (w : World) : Prop := e = .returned (.bool false) ∧ Below w0.heap.size w0 w

set_option maxHeartbeats 1600000 in
set_option maxRecDepth 100000 in
theorem parse1_short (D B g n c : Nat) (bs : List Int) (w : World) (hD : w.heap[D]? = some (.cells #[.slice (some ⟨g, 0, none⟩) n c] 40 (0, 0))) (hg : g < w.heap.size) (hb : Lies w g 0 bs) (hl : bs.length = n) (hn : n < 48) :
    Calls Try.prog 53 #[.pointer (some ⟨D, 0, none⟩), .pointer (some ⟨B, 0, none⟩)] w (Empty w) := by
  have HC := Keep.mk (Clone.clone_any g n c bs w hl (by omega) hg (lies_map hb))
  have HZ := Keep.mk fun A c W => zzparse_short A n c W hn
  have HL := Keep.mk hl
  have c0 := (cell_of_row w D 0 _ _ _ hD).trans (show #[Value.slice (some ⟨g, 0, none⟩) n c][0]? = some (Value.slice (some ⟨g, 0, none⟩) n c) from rfl)
  clear hD hg hb hl hn
  go_enter Try.func53, Try.ntmps53
  go_wp2_with fail
  refine HC.out.mono ?_
  rintro e w1 ⟨v, rfl, ⟨ao, c1, rfl, ho⟩, hb1⟩
  rw [HL.out]
  have HB1 := Keep.mk hb1
  clear ho hb1 HC c0
  go_wp2_with fail
  refine (HZ.out _ _ _).mono ?_
  rintro e w2 ⟨⟨s, rfl⟩, hb2⟩
  have HB2 := Keep.mk (nxt HB1.out hb2)
  clear hb2 HB1 HZ
  have hne := neq_err
  go_wp2_with fail
  go_ret
  exact ⟨rfl, alc HB2.out _⟩

set_option maxHeartbeats 1600000 in
set_option maxRecDepth 100000 in
theorem parse1_any (D B g n c : Nat) (f stratum poll prec rd disp rid ref orig recv xmit : Int) (rest : List Int) (old : Array Value) (w : World) (hD : w.heap[D]? = some (.cells #[.slice (some ⟨g, 0, none⟩) n c] 40 (0, 0))) (hB : HdrAt w B old) (ho : old.size = 13) (hg : g < w.heap.size)
    (fits : Fits f stratum poll prec rd disp rid ref orig recv xmit) (hb : Lies w g 0 (bytes48 f stratum poll prec rd disp rid ref orig recv xmit ++ rest)) (hl : (bytes48 f stratum poll prec rd disp rid ref orig recv xmit ++ rest).length = n) (hn : n ≤ 1000) :
    Calls Try.prog 53 #[.pointer (some ⟨D, 0, none⟩), .pointer (some ⟨B, 0, none⟩)] w fun e w' => (ansB f recv xmit → Filled w B f stratum poll prec rd disp rid ref orig recv xmit e w') ∧ (¬ ansB f recv xmit → Empty w e w') := by
  have HC := Keep.mk (Clone.clone_any g n c _ w hl hn hg (lies_map hb))
  have h48 : 48 ≤ n := by
    rw [← hl, List.length_append, bytes48_length]
    omega
  have HZ := Keep.mk fun (g' c' : Nat) (W : World) hc1 hc2 hgW hdW => zzparse_any g' n c' f stratum poll prec rd disp rid ref orig recv xmit W h48 hc1 hc2 hgW fits hdW
  have HF := Keep.mk fits
  have HL := Keep.mk hl
  have HBo := Keep.mk hB
  have HOs := Keep.mk ho
  have c0 := (cell_of_row w D 0 _ _ _ hD).trans (show #[Value.slice (some ⟨g, 0, none⟩) n c][0]? = some (Value.slice (some ⟨g, 0, none⟩) n c) from rfl)
  clear hD hg hb hl fits hB ho hn
  go_enter Try.func53, Try.ntmps53
  go_wp2_with fail
  refine HC.out.mono ?_
  rintro e w1 ⟨v, rfl, ⟨ao, c1, rfl, ho⟩, hb1⟩
  rw [HL.out] at ho ⊢
  obtain ⟨g', rfl⟩ := own_head ho (by omega)
  have hcap := own_cap ho
  have HZ1 := Keep.mk (HZ.out g' c1 w1 hcap.1 hcap.2 (ho.lt g' rfl).2 (hdr_of HF.out (lies_own ho)))
  have HB1 := Keep.mk hb1
  have hBlt : B < w.heap.size := (Array.getElem?_eq_some_iff.1 HBo.out).1
  have HBo1 : Keep (HdrAt w1 B old) := ⟨(hb1.block B hBlt).trans HBo.out⟩
  clear ho hb1 HC c0 HZ hcap HBo
  go_wp2_with fail
  refine HZ1.out.mono ?_
  rintro e w2 ⟨he, hb2⟩
  have HB2 := Keep.mk (nxt HB1.out hb2)
  have hBlt1 : B < w1.heap.size := (Array.getElem?_eq_some_iff.1 HBo1.out).1
  have HBo2 : Keep (HdrAt w2 B old) := ⟨(hb2.block B hBlt1).trans HBo1.out⟩
  clear hb2 HB1 HZ1 HBo1 hBlt1
  by_cases h : ansB f recv xmit
  · have h' := h
    unfold ansB at h'
    rw [if_pos h'] at he
    subst he
    have HH := Keep.mk h
    have HF0 := HF
    have l0 := HF.out.l0
    have u0 := HF.out.u0
    clear h h' HF
    have l1 := HF0.out.l1
    have u1 := HF0.out.u1
    have l2 := HF0.out.l2
    have u2 := HF0.out.u2
    have l3 := HF0.out.l3
    have u3 := HF0.out.u3
    have hne := neq_nil
    unfold zz
    have HA : Keep ((w2.alloc (.cells #[.int .u8 (f / 64 % 4), .int .i64 (f / 8 % 8), .int .i64 (f % 8), .int .u8 stratum, .int .i8 poll, .int .i8 prec, .int .u32 rd, .int .u32 disp, .int .u32 rid, .int .u64 ref, .int .u64 orig, .int .u64 recv, .int .u64 xmit] 81)).heap[B]? = some (.cells old 36 (0, 0))) := ⟨(Below.heap_alloc _ _ _ (Array.getElem?_eq_some_iff.1 HBo2.out).1).trans HBo2.out⟩
    have HX : Keep (BufA.Ex w.heap.size B w (w2.alloc (.cells #[.int .u8 (f / 64 % 4), .int .i64 (f / 8 % 8), .int .i64 (f % 8), .int .u8 stratum, .int .i8 poll, .int .i8 prec, .int .u32 rd, .int .u32 disp, .int .u32 rid, .int .u64 ref, .int .u64 orig, .int .u64 recv, .int .u64 xmit] 81))) := ⟨Ex.of_below (alc HB2.out _)⟩
    clear HBo2 HB2
    go_wp2_with (refine wpList_store_row rfl 36 (.tmp 1) (.tmp 43) rfl B (hdrCells (f / 64 % 4) (f / 8 % 8) (f % 8) stratum poll prec rd disp rid ref orig recv xmit) rfl rfl 36 old HA.out hdr36_info HOs.out (hdr36_one _ _ _ _ _ _ _ _ _ _ _ _ _) ?_)
    go_wp2_with fail
    go_ret
    exact ⟨fun _ => ⟨rfl, setRow_heap _ B _ _ 36 (0, 0) HA.out, ex_setRow HX.out _⟩, fun h => absurd HH.out h⟩
  · have h' := h
    unfold ansB at h'
    rw [if_neg h'] at he
    obtain ⟨s, rfl⟩ := he
    have HH := Keep.mk h
    clear h h' HF
    have hne := neq_err
    go_wp2_with fail
    go_ret
    exact ⟨fun h => absurd h HH.out, fun _ => ⟨rfl, alc HB2.out _⟩⟩

end Go.Proofs.Ytaanpoankljblaa.RdF
