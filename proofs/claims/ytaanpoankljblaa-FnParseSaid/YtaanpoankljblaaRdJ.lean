/- FnParse at a header whose numbers are of their sizes. -/
import Derived.Test.YtaanpoankljblaaRdI
import Derived.Laws.AppendOwnNone
import Derived.Test.YtaanpoankljblaaEqH
namespace Go.Proofs.Ytaanpoankljblaa.RdJ
open Go.RowKit Go.Proofs.Ytaanpoankljblaa.RdA Go.Proofs.Ytaanpoankljblaa.RdC Go.Proofs.Ytaanpoankljblaa.RdD Go.Proofs.Ytaanpoankljblaa.RdE Go.Proofs.Ytaanpoankljblaa.RdF Go.Proofs.Ytaanpoankljblaa.RdH Go.Proofs.Ytaanpoankljblaa.RdI Go.Proofs.Ytaanpoankljblaa.FmtA Go.Proofs.Ytaanpoankljblaa.FmtB Go.Proofs.Ytaanpoankljblaa.Proper Go.Proofs.Ytaanpoankljblaa.Bytes
set_option linter.unusedVariables false
set_option linter.unusedSimpArgs false

/-- append of bytes that lie somewhere (or of none) to the call's own. -/
theorem wpList_append_came {ops : Array Oper} {rest' : List Oper} {o : Oper} {a : Act} {Q : Exit → Act → World → Prop} {W : World} (hgd : o.guard = none) (s x : Operand)
    (ho : o.op = .call { callee := .builtin .append, args := #[s, x], argTypes := #[40, 40] })
    (base n c len cap : Nat) (ao A : Option Addr) (bs rest : List Int) (hs : a.eval s = .slice ao n c) (hx : a.eval x = .slice A len cap)
    (HO : Row W base n c ao bs) (hbase : base ≤ W.heap.size) (hn : n ≤ 1000) (hl : len ≤ 1000) (hr : rest.length = len) (hA : A = none → len = 0 ∧ cap = 0)
    (hc : ∀ ad, A = some ad → ∀ j y, rest[j]? = some y → W.cell? (ad.add j) = some (.int .u8 y))
    (h : ∀ A' c' w1, Row w1 base (n + len) c' A' (bs ++ rest) → W.grownBy w1 (Value.slice ao n c).ownBlock → wpList Try.prog ops Q rest' (a.put o.dst (.slice A' (n + len) c')) w1) :
    wpList Try.prog ops Q (o :: rest') a W := by
  obtain ⟨i0, hi, hz0, hz1, hz2⟩ := info_parts BufA.info5
  cases A with
  | none =>
    obtain ⟨rfl, rfl⟩ := hA rfl
    obtain rfl : rest = [] := List.eq_nil_of_length_eq_zero hr
    refine wpList_append_own_none hgd s x 40 ho base 5 i0 1 Try.underlying40 hi _ n _ hs HO hx ?_
    refine h ao c W (by simpa using HO) ⟨rfl, rfl, rfl, Nat.le_refl _, fun _ _ _ => rfl⟩
  | some ad =>
    refine wpList_append_own _ hgd s x 40 ho base 5 i0 (.int .u8 0) 1 1 Try.underlying40 hi hz0 hz1 hz2 rfl (by decide) _ n _ hs HO ad len cap (rest.map (Value.int .u8)) hx (by simp [hr]) ?_ ?_ ?_ ?_ ?_ ?_
    · intro j u hj
      rw [List.getElem?_map] at hj
      obtain ⟨y, hy, rfl⟩ := Option.map_eq_some_iff.1 hj
      exact hc ad rfl j y hy
    · intro u hu
      simp only [List.mem_map] at hu
      obtain ⟨y, _, rfl⟩ := hu
      rfl
    · unfold maxLen; omega
    · omega
    · exact hbase
    · intro v1 w1 h1 h2 _
      obtain ⟨A', c', rfl⟩ := BufA.own_slice h1
      rw [← List.map_append] at h1
      exact h A' c' w1 h1 h2

/-- A row of the call's own behind a change that lets its block be. -/
theorem own_keeps {w w' : World} {base N n : Nat} {v : Value} {xs : List Value} (h : w.ownsRow base 5 1 v n xs) (hb : Below N w w') (hN : ∀ k, v.ownBlock = some k → k < N) : w'.ownsRow base 5 1 v n xs :=
  ⟨h.1, by
    rcases h.2 with hn | ⟨g, cap, cur, rfl, hbg, hg, rest⟩
    · exact .inl hn
    · exact .inr ⟨g, cap, cur, rfl, hbg, (hb.block g (hN g rfl)).trans hg, rest⟩⟩

/-- The world behind an append to a row that lies from base on, below base. -/
theorem grown_below {base n : Nat} {W w1 : World} {v : Value} {xs : List Value} (ho : W.ownsRow base 5 1 v n xs) (hs : base ≤ W.heap.size) (hg : W.grownBy w1 v.ownBlock) : Below base W w1 :=
  ⟨hg.os, hg.tape, hg.output, hg.size, fun k hk => hg.block k (by omega) (BufA.ne_own (T := 0) (cells := #[]) ho hk)⟩

/-- Behind a call that makes only new memory, two headers read as before. -/
theorem after_call {W W' : World} {X G : Nat} {a b : Array Value} {s t : TypeId} (hb : Below W.heap.size W W') (hX : W.heap[X]? = some (.cells a s (0, 0))) (hG : W.heap[G]? = some (.cells b t (0, 0))) :
    W'.heap[X]? = some (.cells a s (0, 0)) ∧ W'.heap[G]? = some (.cells b t (0, 0)) :=
  ⟨(hb.block X (Array.getElem?_eq_some_iff.1 hX).1).trans hX, (hb.block G (Array.getElem?_eq_some_iff.1 hG).1).trans hG⟩
theorem undrew {W W' : World} (h : Below W.drew.heap.size W.drew W') : Below W.heap.size W W' := ⟨h.os, h.tape, h.output, h.size, h.block⟩

theorem short_no (gb m cb : Nat) (bs : List Int) (w : World) (hb : Lies w gb 0 bs) (hl : bs.length = 48) (hm : m < 48) (hg : gb < w.heap.size) :
    Calls Try.prog 24 #[.slice (some ⟨gb, 0, none⟩) m cb] w fun e w' => e = .returned (.tuple #[.agg #[.int .i64 0, .int .i64 0, .int .i64 0, .int .i64 0, .int .i64 0, .int .i64 0, .int .u32 0, .int .u32 0, .int .u32 0, .int .u64 0, .int .u64 0, .int .u64 0, .int .u64 0], .bool false]) ∧ Below w.heap.size w w' :=
  RdG.parse_no gb m cb 0 0 0 0 0 0 0 0 0 0 0 w ⟨fun W hbW D B hDl hBl hD hB => parse1_short D B gb m cb (bs.take m) W hD (Nat.lt_of_lt_of_le hg hbW.size) (fun j x hj => by
    have hj' : bs[j]? = some x := by
      rw [List.getElem?_take] at hj
      split at hj
      · exact hj
      · cases hj
    exact (hbW.cell (p := ⟨gb, 0 + j, none⟩) hg).trans (hb j x hj')) (by rw [List.length_take, hl]; omega) hm⟩

set_option maxHeartbeats 3200000 in
set_option maxRecDepth 100000 in
theorem law_yes (leap version mode stratum poll prec rd disp rid ref orig recv xmit : Int) (A : Option Addr) (len cap : Nat) (n : Int) (rest : List Int) (w : World) (hl : (len : Int) ≤ 100) (hA : A = none → len = 0 ∧ cap = 0) (came : Came w A len rest)
    (hp : properB leap version mode stratum poll prec = true) (r0 : 0 ≤ rd) (r1 : rd < 4294967296) (d0 : 0 ≤ disp) (d1 : disp < 4294967296) (i0 : 0 ≤ rid) (i1 : rid < 4294967296)
    (e0 : 0 ≤ ref) (e1 : ref < 18446744073709551616) (o0 : 0 ≤ orig) (o1 : orig < 18446744073709551616) (v0 : 0 ≤ recv) (v1 : recv < 18446744073709551616) (x0 : 0 ≤ xmit) (x1 : xmit < 18446744073709551616) :
    Calls Try.prog 6 #[.agg #[.int .i64 leap, .int .i64 version, .int .i64 mode, .int .i64 stratum, .int .i64 poll, .int .i64 prec, .int .u32 rd, .int .u32 disp, .int .u32 rid, .int .u64 ref, .int .u64 orig, .int .u64 recv, .int .u64 xmit], .slice A len cap, .int .i64 n] w
      fun e w' => e = .returned (.bool true) ∧ Below w.heap.size w w' := by
  have hq := of_decide_eq_true hp
  obtain ⟨⟨bl0, bl1⟩, hv, ⟨bm0, bm1⟩, ⟨bs0, bs1⟩, ⟨bp0, bp1⟩, ⟨bc0, bc1⟩⟩ := hq
  have bv0 : 0 ≤ version := by omega
  have bv1 : version ≤ 7 := by omega
  obtain ⟨pf0, pf1, pf2, pf3, pf4⟩ := parts leap version mode bl0 bl1 bv0 bv1 bm0 bm1
  have HFits : Keep (Fits (first leap version mode) stratum poll prec rd disp rid ref orig recv xmit) := ⟨⟨pf0, pf1, bs0, by omega, bp0, by omega, bc0, by omega, r0, r1, d0, d1, i0, i1, e0, e1, o0, o1, v0, v1, x0, x1⟩⟩
  have HPf := Keep.mk (And.intro pf2 (And.intro pf3 pf4))
  have HY := Keep.mk fun W => Bytes.bytes_any leap version mode stratum poll prec rd disp rid ref orig recv xmit W bl0 bl1 bv0 bv1 bm0 bm1 bs0 bs1 bp0 bp1 bc0 bc1 r0 r1 d0 d1 i0 i1
  have HP := Keep.mk hp
  have HCame := Keep.mk came
  have HA := Keep.mk hA
  clear hp bl0 bl1 hv bm0 bm1 bs0 bs1 bp0 bp1 bc0 bc1 bv0 bv1 r0 r1 d0 d1 i0 i1 e0 e1 o0 o1 v0 v1 x0 x1 pf0 pf1 pf2 pf3 pf4 came hA
  go_enter Try.func6, Try.ntmps6
  go_wp2_with fail
  refine (header_any _ _ _ _ _ _ _ _ _ _ _ _ _ _).mono ?_
  rintro e w1 ⟨rfl, hb1⟩
  have HB1 := Keep.mk (nxt (alc (Below.refl _ _) _) hb1)
  clear hb1
  go_wp2_with fail
  refine (proper_any _ _ _ _ _ _ _ _ _ _ _ _ _ _).mono ?_
  rintro e w2 ⟨rfl, hb2⟩
  have HB2 := Keep.mk (nxt (alc HB1.out _) hb2)
  have K37 : Keep (w2.heap[w1.heap.size]? = some (.cells (hdrCells leap version mode stratum poll prec rd disp rid ref orig recv xmit) 37 (0, 0))) := ⟨(hb2.block _ (by simp)).trans (heap_alloc_new w1 _)⟩
  have hle1 : w.heap.size ≤ w1.heap.size := HB1.out.size
  obtain ⟨X, hX⟩ : ∃ X, X = w1.heap.size := ⟨_, rfl⟩
  rw [← hX] at K37 hle1 ⊢
  clear hb2 HB1 hX
  rw [HP.out]
  obtain ⟨c0, c1, c2, c3, c4, c5, c6, c7, c8, c9, c10, c11, c12⟩ := FmtD.hdr_cells K37.out
  go_wp2_with fail
  refine (HY.out _).mono ?_
  rintro e w3 ⟨v, rfl, ⟨aob, cb, rfl, ho⟩, hb3⟩
  generalize hbs : bytes48 (first leap version mode) stratum poll prec rd disp rid ref orig recv xmit = bs at ho ⊢
  have hl48 : bs.length = 48 := by rw [← hbs]; exact bytes48_length _ _ _ _ _ _ _ _ _ _ _
  have HBs := Keep.mk hbs
  rw [hl48] at ho ⊢
  obtain ⟨gb, rfl⟩ := own_head ho (by omega)
  have HL := Keep.mk hl48
  have HB3 := Keep.mk (nxt HB2.out hb3)
  have hgb := (ho.lt gb rfl).2
  have hXl : X < w3.heap.size := Nat.lt_of_lt_of_le (Array.getElem?_eq_some_iff.1 K37.out).1 hb3.size
  have J37 : Keep (w3.heap[X]? = some (.cells (hdrCells leap version mode stratum poll prec rd disp rid ref orig recv xmit) 37 (0, 0))) := ⟨(hb3.block X (Array.getElem?_eq_some_iff.1 K37.out).1).trans K37.out⟩
  have HO := Keep.mk ho
  clear hbs hl48 ho hb3 HB2 K37 HY c0 c1 c2 c3 c4 c5 c6 c7 c8 c9 c10 c11 c12
  go_wp2_with (at_builtin; refine wpList_append_came rfl (.tmp 30) (.tmp 31) rfl w3.heap.size 0 0 48 cb (some ⟨w3.heap.size, 0, none⟩) (some ⟨gb, 0, none⟩) [] bs rfl rfl ?own ?b1 ?b2 ?b3 HL.out ?b4 ?b5 ?next)
  case own => exact World.ownsRow_made w3 #[] 0 (Nat.le_refl _) (by simp [maxLen]) rfl
  case b1 => simp
  case b2 => omega
  case b3 => omega
  case b4 => intro h; cases h
  case b5 =>
    intro ad had j y hy
    obtain rfl := Option.some.inj had
    rw [show (⟨gb, 0, none⟩ : Addr).add j = ⟨gb, j, none⟩ by unfold Addr.add; split <;> simp_all]
    refine (World.cell?_alloc_lt w3 _ ⟨gb, j, none⟩ hgb).trans ?_
    have := lies_own HO.out j y hy
    rwa [Nat.zero_add] at this
  case next =>
  intro a4 c4 w4 ho4 hg4
  have hb4 : Below w3.heap.size (w3.alloc (.cells #[] 5)) w4 := grown_below (World.ownsRow_made w3 #[] 0 (Nat.le_refl _) (by simp [maxLen]) rfl) (by simp) hg4
  have HB34 : Keep (Below w3.heap.size w3 w4) := ⟨((Below.refl w3.heap.size w3).alloc (Nat.le_refl _) _).trans hb4⟩
  have H4 := Keep.mk ho4
  clear ho4 hg4 hb4
  go_wp2_with (at_builtin; refine wpList_append_came rfl (.tmp 32) (.tmp 33) rfl w3.heap.size 48 c4 len cap a4 A bs rest rfl rfl H4.out ?b1 ?b2 ?b3 HCame.out.1 HA.out ?b5 ?next)
  case b1 => exact HB34.out.size
  case b2 => omega
  case b3 => omega
  case b5 =>
    intro ad had j y hy
    obtain ⟨hc, hlt⟩ := HCame.out.2 ad had j y hy
    have e : (ad.add j).block = ad.block := by unfold Addr.add; split <;> rfl
    have h1 := (HB3.out.cell (p := ad.add j) (by rw [e]; exact hlt)).trans hc
    exact (HB34.out.cell (p := ad.add j) (by rw [e]; exact Nat.lt_of_lt_of_le hlt HB3.out.size)).trans h1
  case next =>
  intro a5 c5 w5 ho5 hg5
  have hb5 : Below w3.heap.size w4 w5 := grown_below H4.out HB34.out.size hg5
  have HB35 : Keep (Below w3.heap.size w3 w5) := ⟨HB34.out.trans hb5⟩
  obtain ⟨g5, rfl⟩ := own_head ho5 (by omega)
  have hlt5 := (World.ownsRow.lt ho5 g5 rfl).2
  have H5 := Keep.mk ho5
  clear ho5 hg5 hb5 H4 HB34
  go_wp2_with fail
  have HD5 : Keep (Lies w5 g5 0 (bs ++ rest)) := ⟨lies_own H5.out⟩
  have HT := Keep.mk fun (W : World) (hbW : Below w5.heap.size w5 W) (D B : Nat) (_ : D < W.heap.size) (_ : B < W.heap.size) hD (hB : HdrAt W B (hdrCells 0 0 0 0 0 0 0 0 0 0 0 0 0)) =>
    parse1_any D B g5 (48 + len) c5 (first leap version mode) stratum poll prec rd disp rid ref orig recv xmit rest (hdrCells 0 0 0 0 0 0 0 0 0 0 0 0 0) W hD hB rfl (Nat.lt_of_lt_of_le hlt5 hbW.size) HFits.out (by
      rw [HBs.out]
      exact fun j x hj => (hbW.cell (p := ⟨g5, 0 + j, none⟩) hlt5).trans (HD5.out j x hj)) (by rw [HBs.out, List.length_append, HL.out, HCame.out.1]) (by omega)
  have HX5 : Keep (w5.heap[X]? = some (.cells (hdrCells leap version mode stratum poll prec rd disp rid ref orig recv xmit) 37 (0, 0))) := ⟨(HB35.out.block X hXl).trans J37.out⟩
  have HB5 : Keep (Below w.heap.size w w5) := ⟨nxt HB3.out HB35.out⟩
  have HO5 : Keep (w5.ownsRow w2.heap.size 5 1 (.slice (some ⟨gb, 0, none⟩) 48 cb) 48 (bs.map (Value.int .u8))) := ⟨own_keeps HO.out HB35.out (fun k hk => by simp [Value.ownBlock] at hk; omega)⟩
  have hgb5 : gb < w5.heap.size := Nat.lt_of_lt_of_le hgb HB35.out.size
  have hX5 : X < w5.heap.size := Nat.lt_of_lt_of_le hXl HB35.out.size
  clear H5 HB35 J37 HB3 HO hgb hXl HD5
  by_cases hans : ansB (first leap version mode) recv xmit
  · have hpy := RdG.parse_yes g5 (48 + len) c5 (first leap version mode) stratum poll prec rd disp rid ref orig recv xmit w5 ⟨fun W hbW D B hDl hBl hD hB => (HT.out W hbW D B hDl hBl hD hB).mono fun e w' h => h.1 hans⟩
    rw [HPf.out.1, HPf.out.2.1, HPf.out.2.2] at hpy
    have HB0 : Keep (true = decide (mode = 4 ∧ xmit ≠ 0 ∧ recv ≤ xmit)) := ⟨(decide_eq_true (by have := hans; unfold ansB at this; rwa [HPf.out.2.2] at this)).symm⟩
    have HPY := Keep.mk hpy
    clear hpy HT hans
    refine HPY.out.mono ?_
    rintro e w6 ⟨rfl, hb6⟩
    have HX6 : Keep (w6.heap[X]? = some (.cells (hdrCells leap version mode stratum poll prec rd disp rid ref orig recv xmit) 37 (0, 0))) := ⟨(hb6.block X hX5).trans HX5.out⟩
    have HO6 := Keep.mk (FmtD.own_below HO5.out hb6)
    have HB6 := Keep.mk (nxt HB5.out hb6)
    have hX6 : X < w6.heap.size := Nat.lt_of_lt_of_le hX5 hb6.size
    have hgb6 : gb < w6.heap.size := Nat.lt_of_lt_of_le hgb5 hb6.size
    clear hb6 HX5 HO5 HB5 hX5 hgb5 HPY
    go_wp2_with fail
    obtain ⟨G, hG⟩ : ∃ G, G = w6.heap.size := ⟨_, rfl⟩
    have HX7 : Keep ((w6.alloc (.cells (hdrCells leap version mode stratum poll prec rd disp rid ref orig recv xmit) 36)).heap[X]? = some (.cells (hdrCells leap version mode stratum poll prec rd disp rid ref orig recv xmit) 37 (0, 0))) := ⟨(Below.heap_alloc _ _ _ hX6).trans HX6.out⟩
    have HG7 : Keep ((w6.alloc (.cells (hdrCells leap version mode stratum poll prec rd disp rid ref orig recv xmit) 36)).heap[G]? = some (.cells (hdrCells leap version mode stratum poll prec rd disp rid ref orig recv xmit) 36 (0, 0))) := ⟨by rw [hG]; exact heap_alloc_new _ _⟩
    have HB7 : Keep (Below w.heap.size w (w6.alloc (.cells (hdrCells leap version mode stratum poll prec rd disp rid ref orig recv xmit) 36))) := ⟨alc HB6.out _⟩
    have HO7 : Keep ((w6.alloc (.cells (hdrCells leap version mode stratum poll prec rd disp rid ref orig recv xmit) 36)).ownsRow w2.heap.size 5 1 (.slice (some ⟨gb, 0, none⟩) 48 cb) 48 (bs.map (Value.int .u8))) := ⟨World.ownsRow.alloc HO6.out _⟩
    have hgb7 : gb < (w6.alloc (.cells (hdrCells leap version mode stratum poll prec rd disp rid ref orig recv xmit) 36)).heap.size := by simp; omega
    rw [← hG]
    clear HX6 HO6 HB6 hX6 hgb6 hG
    unfold hdrCells at HX7 HG7 HB7 HO7 hgb7
    generalize World.alloc w6 _ = w7 at HX7 HG7 HB7 HO7 hgb7 ⊢
    obtain ⟨c0, c1, c2, c3, c4, c5, c6, c7, c8, c9, c10, c11, c12⟩ := FmtD.hdr_cells HX7.out
    have hsame := EqH.same_hdr leap version mode stratum poll prec rd disp rid ref orig recv xmit
    go_region_with (first | (go_at_call 25; refine (answer_any _ _ _ _ _ _ _ _ _ _ _ _ _ _ HP.out true HB0.out).mono ?_; rintro e w8 ⟨rfl, hb8⟩; have HB8 := Keep.mk (nxt HB7.out (undrew hb8)); have HO8 := Keep.mk (FmtD.own_below HO7.out (undrew hb8)); have hgb8 := Nat.lt_of_lt_of_le hgb7 (undrew hb8).size; obtain ⟨hX8, hG8⟩ := after_call (undrew hb8) HX7.out HG7.out; obtain ⟨f0, f1, f2, f3, f4, f5, f6, f7, f8, f9, f10, f11, f12⟩ := FmtD.hdr_cells hX8; obtain ⟨g0, g1, g2, g3, g4, g5', g6, g7, g8, g9, g10, g11, g12⟩ := FmtD.hdr_cells hG8; have HX8 := Keep.mk hX8; have HG8 := Keep.mk hG8; clear hb8 hX8 hG8 HX7 HG7 HB7 HO7 hgb7 c0 c1 c2 c3 c4 c5 c6 c7 c8 c9 c10 c11 c12) | (go_at_call 20; refine (header_any _ _ _ _ _ _ _ _ _ _ _ _ _ _).mono ?_; rintro e w9 ⟨rfl, hb9⟩; have HB9 := Keep.mk (nxt HB8.out hb9); have HO9 := Keep.mk (FmtD.own_below HO8.out hb9); have hgb9 := Nat.lt_of_lt_of_le hgb8 hb9.size; obtain ⟨hX9, hG9⟩ := after_call hb9 HX8.out HG8.out; obtain ⟨k0, k1, k2, k3, k4, k5, k6, k7, k8, k9, k10, k11, k12⟩ := FmtD.hdr_cells hX9; clear hb9 hX9 hG9 g0 g1 g2 g3 g4 g5' g6 g7 g8 g9 g10 g11 g12))
    all_goals
      go_ways
      by_cases hn0 : 0 ≤ n
      · by_cases hn1 : n < 48
        · obtain ⟨m, rfl⟩ := Int.eq_ofNat_of_zero_le hn0
          have hcap := own_cap HO9.out
          have HS := Keep.mk (short_no gb m cb bs _ (lies_own HO9.out) HL.out (by omega) hgb9)
          go_wp2_with fail
          refine HS.out.mono ?_
          rintro e w10 ⟨rfl, hb10⟩
          have HB10 := Keep.mk (alc (nxt HB9.out hb10) (.cells (hdrCells 0 0 0 0 0 0 0 0 0 0 0 0 0) 36))
          clear hb10 HB9 HS
          go_wp2_with fail
          refine (Works.works_any _).mono ?_
          rintro e w11 ⟨rfl, hb11⟩
          have HB11 := Keep.mk (nxt HB10.out hb11)
          clear hb11 HB10
          go_wp2_with fail
          go_ret
          exact ⟨rfl, HB11.out⟩
        · go_wp2_with fail
          refine (Works.works_any _).mono ?_
          rintro e w11 ⟨rfl, hb11⟩
          have HB11 := Keep.mk (nxt HB9.out hb11)
          clear hb11 HB9
          go_wp2_with fail
          go_ret
          exact ⟨rfl, HB11.out⟩
      · go_wp2_with fail
        refine (Works.works_any _).mono ?_
        rintro e w11 ⟨rfl, hb11⟩
        have HB11 := Keep.mk (nxt HB9.out hb11)
        clear hb11 HB9
        go_wp2_with fail
        go_ret
        exact ⟨rfl, HB11.out⟩
  · have hpn := RdG.parse_no g5 (48 + len) c5 (first leap version mode) stratum poll prec rd disp rid ref orig recv xmit w5 ⟨fun W hbW D B hDl hBl hD hB => (HT.out W hbW D B hDl hBl hD hB).mono fun e w' h => h.2 hans⟩
    have HB0 : Keep (false = decide (mode = 4 ∧ xmit ≠ 0 ∧ recv ≤ xmit)) := ⟨(decide_eq_false (by have := hans; unfold ansB at this; rwa [HPf.out.2.2] at this)).symm⟩
    have HPN := Keep.mk hpn
    clear hpn HT hans
    refine HPN.out.mono ?_
    rintro e w6 ⟨rfl, hb6⟩
    have HX6 : Keep (w6.heap[X]? = some (.cells (hdrCells leap version mode stratum poll prec rd disp rid ref orig recv xmit) 37 (0, 0))) := ⟨(hb6.block X hX5).trans HX5.out⟩
    have HO6 := Keep.mk (FmtD.own_below HO5.out hb6)
    have HB6 := Keep.mk (nxt HB5.out hb6)
    have hX6 : X < w6.heap.size := Nat.lt_of_lt_of_le hX5 hb6.size
    have hgb6 : gb < w6.heap.size := Nat.lt_of_lt_of_le hgb5 hb6.size
    clear hb6 HX5 HO5 HB5 hX5 hgb5 HPN
    go_wp2_with fail
    have HX7 : Keep ((w6.alloc (.cells (hdrCells 0 0 0 0 0 0 0 0 0 0 0 0 0) 36)).heap[X]? = some (.cells (hdrCells leap version mode stratum poll prec rd disp rid ref orig recv xmit) 37 (0, 0))) := ⟨(Below.heap_alloc _ _ _ hX6).trans HX6.out⟩
    have HB7 : Keep (Below w.heap.size w (w6.alloc (.cells (hdrCells 0 0 0 0 0 0 0 0 0 0 0 0 0) 36))) := ⟨alc HB6.out _⟩
    have HO7 : Keep ((w6.alloc (.cells (hdrCells 0 0 0 0 0 0 0 0 0 0 0 0 0) 36)).ownsRow w2.heap.size 5 1 (.slice (some ⟨gb, 0, none⟩) 48 cb) 48 (bs.map (Value.int .u8))) := ⟨World.ownsRow.alloc HO6.out _⟩
    have hgb7 : gb < (w6.alloc (.cells (hdrCells 0 0 0 0 0 0 0 0 0 0 0 0 0) 36)).heap.size := by simp; omega
    clear HX6 HO6 HB6 hX6 hgb6
    unfold hdrCells at HX7 HB7 HO7 hgb7
    generalize World.alloc w6 _ = w7 at HX7 HB7 HO7 hgb7 ⊢
    obtain ⟨c0, c1, c2, c3, c4, c5, c6, c7, c8, c9, c10, c11, c12⟩ := FmtD.hdr_cells HX7.out
    go_region_with (go_at_call 25; refine (answer_any _ _ _ _ _ _ _ _ _ _ _ _ _ _ HP.out false HB0.out).mono ?_; rintro e w9 ⟨rfl, hb9⟩; have HB9 := Keep.mk (nxt HB7.out (undrew hb9)); have HO9 := Keep.mk (FmtD.own_below HO7.out (undrew hb9)); have hgb9 := Nat.lt_of_lt_of_le hgb7 (undrew hb9).size; clear hb9 HX7 HB7 HO7 hgb7 c0 c1 c2 c3 c4 c5 c6 c7 c8 c9 c10 c11 c12)
    all_goals
      go_ways
      by_cases hn0 : 0 ≤ n
      · by_cases hn1 : n < 48
        · obtain ⟨m, rfl⟩ := Int.eq_ofNat_of_zero_le hn0
          have hcap := own_cap HO9.out
          have HS := Keep.mk (short_no gb m cb bs _ (lies_own HO9.out) HL.out (by omega) hgb9)
          go_wp2_with fail
          refine HS.out.mono ?_
          rintro e w10 ⟨rfl, hb10⟩
          have HB10 := Keep.mk (alc (nxt HB9.out hb10) (.cells (hdrCells 0 0 0 0 0 0 0 0 0 0 0 0 0) 36))
          clear hb10 HB9 HS
          go_wp2_with fail
          refine (Works.works_any _).mono ?_
          rintro e w11 ⟨rfl, hb11⟩
          have HB11 := Keep.mk (nxt HB10.out hb11)
          clear hb11 HB10
          go_wp2_with fail
          go_ret
          exact ⟨rfl, HB11.out⟩
        · go_wp2_with fail
          refine (Works.works_any _).mono ?_
          rintro e w11 ⟨rfl, hb11⟩
          have HB11 := Keep.mk (nxt HB9.out hb11)
          clear hb11 HB9
          go_wp2_with fail
          go_ret
          exact ⟨rfl, HB11.out⟩
      · go_wp2_with fail
        refine (Works.works_any _).mono ?_
        rintro e w11 ⟨rfl, hb11⟩
        have HB11 := Keep.mk (nxt HB9.out hb11)
        clear hb11 HB9
        go_wp2_with fail
        go_ret
        exact ⟨rfl, HB11.out⟩

end Go.Proofs.Ytaanpoankljblaa.RdJ
