/- spec.Bytes: the 48 bytes of a header. -/
import Derived.Test.YtaanpoankljblaaFmtC
namespace Go.Proofs.Ytaanpoankljblaa.Bytes
open Go.RowKit Go.Proofs.Ytaanpoankljblaa.High Go.Proofs.Ytaanpoankljblaa.BufA Go.Proofs.Ytaanpoankljblaa.BufB Go.Proofs.Ytaanpoankljblaa.FmtA Go.Proofs.Ytaanpoankljblaa.FmtB
set_option linter.unusedVariables false
set_option linter.unusedSimpArgs false

/-- high(n, 4) and high(n, 8): a new block with the bytes. -/
theorem high_hib4 (n : Int) (w : World) :
    Calls Try.prog 43 #[.int .u64 n, .int .i64 4] w fun e w' => e = .returned (.slice (some ⟨w.heap.size, 0, none⟩) 4 4) ∧ ∃ cs : Array Value, cs.toList = (hib n 4).map (Value.int .u8) ∧ w.alloc (.cells cs 5) = w' := by
  refine (high4 n w).mono ?_
  rintro e w' ⟨rfl, rfl⟩
  refine ⟨rfl, _, ?_, rfl⟩
  simp only [hib, List.map_cons, List.map_nil]
  rw [show n / 2 ^ (8 * 3) = n / 256 / 256 / 256 by omega, show n / 2 ^ (8 * 2) = n / 256 / 256 by omega, show n / 2 ^ (8 * 1) = n / 256 by omega, show n / 2 ^ (8 * 0) = n by omega]
theorem high_hib8 (n : Int) (w : World) :
    Calls Try.prog 43 #[.int .u64 n, .int .i64 8] w fun e w' => e = .returned (.slice (some ⟨w.heap.size, 0, none⟩) 8 8) ∧ ∃ cs : Array Value, cs.toList = (hib n 8).map (Value.int .u8) ∧ w.alloc (.cells cs 5) = w' := by
  refine (high8 n w).mono ?_
  rintro e w' ⟨rfl, rfl⟩
  refine ⟨rfl, _, ?_, rfl⟩
  simp only [hib, List.map_cons, List.map_nil]
  rw [show n / 2 ^ (8 * 7) = n / 256 / 256 / 256 / 256 / 256 / 256 / 256 by omega, show n / 2 ^ (8 * 6) = n / 256 / 256 / 256 / 256 / 256 / 256 by omega, show n / 2 ^ (8 * 5) = n / 256 / 256 / 256 / 256 / 256 by omega, show n / 2 ^ (8 * 4) = n / 256 / 256 / 256 / 256 by omega, show n / 2 ^ (8 * 3) = n / 256 / 256 / 256 by omega, show n / 2 ^ (8 * 2) = n / 256 / 256 by omega, show n / 2 ^ (8 * 1) = n / 256 by omega, show n / 2 ^ (8 * 0) = n by omega]

def Row (w : World) (base n c : Nat) (ao : Option Addr) (bs : List Int) : Prop := w.ownsRow base 5 1 (.slice ao n c) n (bs.map (Value.int .u8))

/-- append of a new block's bytes to the call's own. -/
theorem wpList_append_new {ops : Array Oper} {rest : List Oper} {o : Oper} {a : Act} {Q : Exit → Act → World → Prop} (hgd : o.guard = none) (s x : Operand)
    (ho : o.op = .call { callee := .builtin .append, args := #[s, x], argTypes := #[40, 40] })
    (base n m c : Nat) (ao : Option Addr) (bs new : List Int) (cs : Array Value) (W : World) (hs : a.eval s = .slice ao n c) (hx : a.eval x = .slice (some ⟨W.heap.size, 0, none⟩) m m)
    (hcs : cs.toList = new.map (Value.int .u8)) (hm : new.length = m) (HO : Row W base n c ao bs) (hbase : base ≤ W.heap.size) (hn : n ≤ 1000) (hm2 : m ≤ 1000)
    (h : ∀ A c' w1, Row w1 base (n + m) c' A (bs ++ new) → (W.alloc (.cells cs 5)).grownBy w1 (Value.slice ao n c).ownBlock → wpList Try.prog ops Q rest (a.put o.dst (.slice A (n + m) c')) w1) :
    wpList Try.prog ops Q (o :: rest) a (W.alloc (.cells cs 5)) := by
  obtain ⟨i0, hi, hz0, hz1, hz2⟩ := info_parts info5
  refine wpList_append_own _ hgd s x 40 ho base 5 i0 (.int .u8 0) 1 1 Try.underlying40 hi hz0 hz1 hz2 rfl (by decide) _ n _ hs (World.ownsRow.alloc HO _) ⟨W.heap.size, 0, none⟩ m m (new.map (Value.int .u8)) hx (by simp [hm]) ?_ ?_ ?_ ?_ ?_ ?_
  · intro j u hj
    rw [show (⟨W.heap.size, 0, none⟩ : Addr).add j = ⟨W.heap.size, j, none⟩ by unfold Addr.add; split <;> simp_all]
    refine (cell_of_row _ W.heap.size j _ _ _ (heap_alloc_new W (.cells cs 5))).trans ?_
    rw [← Array.getElem?_toList, hcs]
    exact hj
  · intro u hu
    simp only [List.mem_map] at hu
    obtain ⟨y, _, rfl⟩ := hu
    rfl
  · unfold maxLen; omega
  · omega
  · simp; omega
  · intro v1 w1 h1 h2 _
    obtain ⟨A, c', rfl⟩ := own_slice h1
    rw [← List.map_append] at h1
    exact h A c' w1 h1 h2

theorem ne_type {w : World} {base g T n : Nat} {v : Value} {xs : List Value} {cells : Array Value} (h : w.ownsRow base 5 1 v n xs) (hg : w.heap[g]? = some (.cells cells T (0, 0))) (hT : T ≠ 5) : some g ≠ v.ownBlock := by
  intro e
  rcases h.2 with ⟨rfl, _⟩ | ⟨g', cap, cur, rfl, _, hb, _⟩
  · simp [Value.ownBlock] at e
  · simp [Value.ownBlock] at e
    subst e
    rw [hg] at hb
    simp only [Option.some.injEq, Obj.cells.injEq] at hb
    exact hT hb.2.1

theorem first_all : ∀ (l : Fin 4) (v m : Fin 8), (bits .or .i64 (bits .or .i64 ((l.val : Int) * 64) ((v.val : Int) * 8)) (m.val : Int) % 256) = first l.val v.val m.val := by decide +kernel
theorem first_eq (l v m : Int) (l0 : 0 ≤ l) (l1 : l ≤ 3) (v0 : 0 ≤ v) (v1 : v ≤ 7) (m0 : 0 ≤ m) (m1 : m ≤ 7) : bits .or .i64 (bits .or .i64 (l * 64) (v * 8)) m % 256 = first l v m := by
  have h := first_all ⟨l.toNat, by omega⟩ ⟨v.toNat, by omega⟩ ⟨m.toNat, by omega⟩
  simp only [Int.toNat_of_nonneg l0, Int.toNat_of_nonneg v0, Int.toNat_of_nonneg m0] at h
  exact h

theorem three_first (w : World) (o1 o2 o3 : Obj) : (((w.alloc o1).alloc o2).alloc o3).heap[w.heap.size]? = some o1 := by
  rw [Below.heap_alloc _ _ _ (by simp <;> omega), Below.heap_alloc _ _ _ (by simp <;> omega)]
  exact heap_alloc_new w o1
theorem three_second (w : World) (o1 o2 o3 : Obj) : (((w.alloc o1).alloc o2).alloc o3).heap[w.heap.size + 1]? = some o2 := by
  rw [Below.heap_alloc _ _ _ (by simp <;> omega)]
  simpa using heap_alloc_new (w.alloc o1) o2
theorem three_third (w : World) (o1 o2 o3 : Obj) : (((w.alloc o1).alloc o2).alloc o3).heap[w.heap.size + 1 + 1]? = some o3 := by
  simpa using heap_alloc_new ((w.alloc o1).alloc o2) o3
theorem three_below (w : World) (o1 o2 o3 : Obj) : Below w.heap.size w (((w.alloc o1).alloc o2).alloc o3) :=
  (((Below.refl _ _).alloc (Nat.le_refl _) _).alloc (by simp) _).alloc (by simp <;> omega) _

/-- The world behind an append, below. -/
theorem below_grown {N base n : Nat} {w W w1 : World} {o : Obj} {v : Value} {xs : List Value} (h : Below N w W) (ho : W.ownsRow base 5 1 v n xs) (hN : N ≤ base) (hs : N ≤ W.heap.size) (hg : (W.alloc o).grownBy w1 v.ownBlock) : Below N w w1 :=
  (h.alloc hs o).grown hg (by simp; omega) (fun k hk => Nat.le_trans hN (ho.lt k hk).1)

set_option maxHeartbeats 1600000 in
set_option maxRecDepth 100000 in
theorem bytes_any (leap version mode stratum poll prec rd disp rid ref orig recv xmit : Int) (w : World)
    (bl0 : 0 ≤ leap) (bl1 : leap ≤ 3) (bv0 : 0 ≤ version) (bv1 : version ≤ 7) (bm0 : 0 ≤ mode) (bm1 : mode ≤ 7) (bs0 : 0 ≤ stratum) (bs1 : stratum ≤ 255) (bp0 : -128 ≤ poll) (bp1 : poll ≤ 127) (bc0 : -128 ≤ prec) (bc1 : prec ≤ 127)
    (r0 : 0 ≤ rd) (r1 : rd < 4294967296) (d0 : 0 ≤ disp) (d1 : disp < 4294967296) (i0 : 0 ≤ rid) (i1 : rid < 4294967296) :
    Calls Try.prog 23 #[.agg #[.int .i64 leap, .int .i64 version, .int .i64 mode, .int .i64 stratum, .int .i64 poll, .int .i64 prec, .int .u32 rd, .int .u32 disp, .int .u32 rid, .int .u64 ref, .int .u64 orig, .int .u64 recv, .int .u64 xmit]] w
      fun e w' => ∃ v, e = .returned v ∧ OwnAt w.heap.size w' v (bytes48 (first leap version mode) stratum poll prec rd disp rid ref orig recv xmit) ∧ Below w.heap.size w w' := by
  have HF := Keep.mk (first_eq leap version mode bl0 bl1 bv0 bv1 bm0 bm1)
  go_enter Try.func23, Try.ntmps23
  go_wp2_with fail
  rw [HF.out]
  clear HF
  generalize hf : first leap version mode = f
  have HF := Keep.mk hf
  clear hf
  obtain ⟨N, hN⟩ : ∃ N, N = w.heap.size := ⟨_, rfl⟩
  generalize hW : World.alloc _ _ = Wv
  have H0 : Keep (Wv.heap[N]? = some (.cells (hdrCells leap version mode stratum poll prec rd disp rid ref orig recv xmit) 37 (0, 0))) := by
    subst hN
    rw [← hW]
    exact ⟨three_first _ _ _ _⟩
  have H2 : Keep (Wv.heap[N + 1 + 1]? = some (.cells #[.int .u32 rd, .int .u32 disp, .int .u32 rid] 22 (0, 0))) := by
    subst hN
    rw [← hW]
    exact ⟨three_third _ _ _ _⟩
  obtain ⟨b0, hb0⟩ : ∃ b : List Int, b = [f] ++ [stratum] ++ [poll % 256] ++ [prec % 256] := ⟨_, rfl⟩
  have HE0 := Keep.mk hb0
  clear hb0
  have HO : Keep (Row Wv (N + 1) 4 4 (some ⟨N + 1, 0, none⟩) b0) := by
    rw [HE0.out]
    subst hN
    rw [← hW]
    exact ⟨rfl, Or.inr ⟨w.heap.size + 1, 4, _, rfl, Nat.le_refl _, three_second _ _ _ _, Nat.le_refl _, by simp [maxLen], rfl, rfl⟩⟩
  have HB : Keep (Below N w Wv) := by
    subst hN
    rw [← hW]
    exact ⟨three_below _ _ _ _⟩
  have HS : N + 1 + 1 + 1 ≤ Wv.heap.size := by
    subst hN
    rw [← hW]
    simp
  rw [← hN]
  have HN : Keep (N = w.heap.size) := ⟨hN⟩
  clear hW hN
  generalize hao : (some ({ block := N + 1, off := 0 } : Addr)) = ao0 at HO ⊢
  clear hao
  obtain ⟨c0, hc⟩ : ∃ c, c = 4 := ⟨_, rfl⟩
  rw [show (Value.slice ao0 4 4) = .slice ao0 4 c0 by rw [hc]]
  rw [show Row Wv (N + 1) 4 4 ao0 b0 = Row Wv (N + 1) 4 c0 ao0 b0 by rw [hc]] at HO
  clear hc
  obtain ⟨V0, hV0⟩ : ∃ V, V = Wv := ⟨_, rfl⟩
  subst hV0
  refine wp_loop_rounds 4 ?_
  -- field rd
  have ce : V0.cell? ⟨N + 1 + 1, 0, none⟩ = some (.int .u32 rd) := (cell_of_row V0 (N + 1 + 1) 0 _ _ _ H2.out).trans rfl
  rw [rounds_succ]
  go_wp2_with fail
  refine (high_hib4 rd _).mono ?_
  clear ce
  rintro e w1 ⟨rfl, cs, hcs, rfl⟩
  have HC := Keep.mk hcs
  clear hcs
  go_wp2_with (at_builtin; refine wpList_append_new rfl (.tmp 41) (.tmp 44) rfl (N + 1) 4 4 c0 ao0 b0 (hib rd 4) cs V0 rfl rfl HC.out (hib_length _ _) HO.out (by omega) (by omega) (by omega) ?next)
  case next =>
  intro ao1 c1 V1 h1 h2
  obtain ⟨b1, hb1⟩ : ∃ b, b = b0 ++ hib rd 4 := ⟨_, rfl⟩
  rw [← hb1] at h1
  have HE1 := Keep.mk hb1
  clear hb1
  have H01 := Keep.mk ((h2.block N (by simp; omega) (ne_own (T := 0) (cells := #[]) HO.out (by omega))).trans ((Below.heap_alloc V0 _ N (by omega)).trans H0.out))
  have H21 := Keep.mk ((h2.block (N + 1 + 1) (by simp; omega) (ne_type HO.out H2.out (by decide))).trans ((Below.heap_alloc V0 _ (N + 1 + 1) (by omega)).trans H2.out))
  have HB1 := Keep.mk (below_grown HB.out HO.out (by omega) (by omega) h2)
  have HS1 : N + 1 + 1 + 1 ≤ V1.heap.size := by
    have := h2.size
    simp at this
    omega
  have HO1 := Keep.mk h1
  clear H0 H2 HB HS HO HC h1 h2 cs
  obtain ⟨H0, H2, HB, HS, HO⟩ := And.intro H01 (And.intro H21 (And.intro HB1 (And.intro HS1 HO1)))
  clear H01 H21 HB1 HS1 HO1
  go_wp2_with fail
  -- field disp
  have ce : V1.cell? ⟨N + 1 + 1, 1, none⟩ = some (.int .u32 disp) := (cell_of_row V1 (N + 1 + 1) 1 _ _ _ H2.out).trans rfl
  rw [rounds_succ]
  go_wp2_with fail
  refine (high_hib4 disp _).mono ?_
  clear ce
  rintro e w1 ⟨rfl, cs, hcs, rfl⟩
  have HC := Keep.mk hcs
  clear hcs
  go_wp2_with (at_builtin; refine wpList_append_new rfl (.tmp 41) (.tmp 44) rfl (N + 1) 8 4 c1 ao1 b1 (hib disp 4) cs V1 rfl rfl HC.out (hib_length _ _) HO.out (by omega) (by omega) (by omega) ?next)
  case next =>
  intro ao2 c2 V2 h1 h2
  obtain ⟨b2, hb2⟩ : ∃ b, b = b1 ++ hib disp 4 := ⟨_, rfl⟩
  rw [← hb2] at h1
  have HE2 := Keep.mk hb2
  clear hb2
  have H01 := Keep.mk ((h2.block N (by simp; omega) (ne_own (T := 0) (cells := #[]) HO.out (by omega))).trans ((Below.heap_alloc V1 _ N (by omega)).trans H0.out))
  have H21 := Keep.mk ((h2.block (N + 1 + 1) (by simp; omega) (ne_type HO.out H2.out (by decide))).trans ((Below.heap_alloc V1 _ (N + 1 + 1) (by omega)).trans H2.out))
  have HB1 := Keep.mk (below_grown HB.out HO.out (by omega) (by omega) h2)
  have HS1 : N + 1 + 1 + 1 ≤ V2.heap.size := by
    have := h2.size
    simp at this
    omega
  have HO1 := Keep.mk h1
  clear H0 H2 HB HS HO HC h1 h2 cs
  obtain ⟨H0, H2, HB, HS, HO⟩ := And.intro H01 (And.intro H21 (And.intro HB1 (And.intro HS1 HO1)))
  clear H01 H21 HB1 HS1 HO1
  go_wp2_with fail
  -- field rid
  have ce : V2.cell? ⟨N + 1 + 1, 2, none⟩ = some (.int .u32 rid) := (cell_of_row V2 (N + 1 + 1) 2 _ _ _ H2.out).trans rfl
  rw [rounds_succ]
  go_wp2_with fail
  refine (high_hib4 rid _).mono ?_
  clear ce
  rintro e w1 ⟨rfl, cs, hcs, rfl⟩
  have HC := Keep.mk hcs
  clear hcs
  go_wp2_with (at_builtin; refine wpList_append_new rfl (.tmp 41) (.tmp 44) rfl (N + 1) 12 4 c2 ao2 b2 (hib rid 4) cs V2 rfl rfl HC.out (hib_length _ _) HO.out (by omega) (by omega) (by omega) ?next)
  case next =>
  intro ao3 c3 V3 h1 h2
  obtain ⟨b3, hb3⟩ : ∃ b, b = b2 ++ hib rid 4 := ⟨_, rfl⟩
  rw [← hb3] at h1
  have HE3 := Keep.mk hb3
  clear hb3
  have H01 := Keep.mk ((h2.block N (by simp; omega) (ne_own (T := 0) (cells := #[]) HO.out (by omega))).trans ((Below.heap_alloc V2 _ N (by omega)).trans H0.out))
  have H21 := Keep.mk ((h2.block (N + 1 + 1) (by simp; omega) (ne_type HO.out H2.out (by decide))).trans ((Below.heap_alloc V2 _ (N + 1 + 1) (by omega)).trans H2.out))
  have HB1 := Keep.mk (below_grown HB.out HO.out (by omega) (by omega) h2)
  have HS1 : N + 1 + 1 + 1 ≤ V3.heap.size := by
    have := h2.size
    simp at this
    omega
  have HO1 := Keep.mk h1
  clear H0 H2 HB HS HO HC h1 h2 cs
  obtain ⟨H0, H2, HB, HS, HO⟩ := And.intro H01 (And.intro H21 (And.intro HB1 (And.intro HS1 HO1)))
  clear H01 H21 HB1 HS1 HO1
  go_wp2_with fail
  -- the second list
  rw [rounds_succ]
  have e9 : V3.cell? ⟨N, 9, none⟩ = some (.int .u64 ref) := (cell_of_row V3 N 9 _ _ _ H0.out).trans rfl
  have e10 : V3.cell? ⟨N, 10, none⟩ = some (.int .u64 orig) := (cell_of_row V3 N 10 _ _ _ H0.out).trans rfl
  have e11 : V3.cell? ⟨N, 11, none⟩ = some (.int .u64 recv) := (cell_of_row V3 N 11 _ _ _ H0.out).trans rfl
  have e12 : V3.cell? ⟨N, 12, none⟩ = some (.int .u64 xmit) := (cell_of_row V3 N 12 _ _ _ H0.out).trans rfl
  go_wp2_with fail
  obtain ⟨M, hM⟩ : ∃ M, M = V3.heap.size := ⟨_, rfl⟩
  have K2 : Keep ((V3.alloc (.cells #[.int .u64 ref, .int .u64 orig, .int .u64 recv, .int .u64 xmit] 26)).heap[M]? = some (.cells #[.int .u64 ref, .int .u64 orig, .int .u64 recv, .int .u64 xmit] 26 (0, 0))) := by
    subst hM
    exact ⟨heap_alloc_new _ _⟩
  have K0 : Keep ((V3.alloc (.cells #[.int .u64 ref, .int .u64 orig, .int .u64 recv, .int .u64 xmit] 26)).heap[N]? = some (.cells (hdrCells leap version mode stratum poll prec rd disp rid ref orig recv xmit) 37 (0, 0))) := ⟨(Below.heap_alloc _ _ _ (by omega)).trans H0.out⟩
  have KB : Keep (Below N w (V3.alloc (.cells #[.int .u64 ref, .int .u64 orig, .int .u64 recv, .int .u64 xmit] 26))) := ⟨HB.out.alloc (by omega) _⟩
  have KO : Keep (Row (V3.alloc (.cells #[.int .u64 ref, .int .u64 orig, .int .u64 recv, .int .u64 xmit] 26)) (N + 1) 16 c3 ao3 b3) := ⟨World.ownsRow.alloc HO.out _⟩
  have KS : M + 1 ≤ (V3.alloc (.cells #[.int .u64 ref, .int .u64 orig, .int .u64 recv, .int .u64 xmit] 26)).heap.size := by
    subst hM
    simp
  have KM : N + 1 + 1 + 1 ≤ M := by
    rw [hM]
    exact HS
  rw [← hM]
  clear e9 e10 e11 e12 H0 H2 HB HS HO hM
  generalize (V3.alloc (.cells #[.int .u64 ref, .int .u64 orig, .int .u64 recv, .int .u64 xmit] 26)) = W2 at K2 K0 KB KO KS ⊢
  clear V3
  obtain ⟨V3, hV3⟩ : ∃ V3, V3 = W2 := ⟨_, rfl⟩
  subst hV3
  obtain ⟨H0, H2, HB, HS, HO⟩ := And.intro K0 (And.intro K2 (And.intro KB (And.intro KS KO)))
  clear K0 K2 KB KS KO
  refine wp_loop_rounds 5 ?_
  -- field ref
  have ce : V3.cell? ⟨M, 0, none⟩ = some (.int .u64 ref) := (cell_of_row V3 (M) 0 _ _ _ H2.out).trans rfl
  rw [rounds_succ]
  go_wp2_with fail
  refine (high_hib8 ref _).mono ?_
  clear ce
  rintro e w1 ⟨rfl, cs, hcs, rfl⟩
  have HC := Keep.mk hcs
  clear hcs
  go_wp2_with (at_builtin; refine wpList_append_new rfl (.tmp 61) (.tmp 63) rfl (N + 1) 16 8 c3 ao3 b3 (hib ref 8) cs V3 rfl rfl HC.out (hib_length _ _) HO.out (by omega) (by omega) (by omega) ?next)
  case next =>
  intro ao4 c4 V4 h1 h2
  obtain ⟨b4, hb4⟩ : ∃ b, b = b3 ++ hib ref 8 := ⟨_, rfl⟩
  rw [← hb4] at h1
  have HE4 := Keep.mk hb4
  clear hb4
  have H01 := Keep.mk ((h2.block N (by simp; omega) (ne_own (T := 0) (cells := #[]) HO.out (by omega))).trans ((Below.heap_alloc V3 _ N (by omega)).trans H0.out))
  have H21 := Keep.mk ((h2.block (M) (by simp; omega) (ne_type HO.out H2.out (by decide))).trans ((Below.heap_alloc V3 _ (M) (by omega)).trans H2.out))
  have HB1 := Keep.mk (below_grown HB.out HO.out (by omega) (by omega) h2)
  have HS1 : M + 1 ≤ V4.heap.size := by
    have := h2.size
    simp at this
    omega
  have HO1 := Keep.mk h1
  clear H0 H2 HB HS HO HC h1 h2 cs
  obtain ⟨H0, H2, HB, HS, HO⟩ := And.intro H01 (And.intro H21 (And.intro HB1 (And.intro HS1 HO1)))
  clear H01 H21 HB1 HS1 HO1
  go_wp2_with fail
  -- field orig
  have ce : V4.cell? ⟨M, 1, none⟩ = some (.int .u64 orig) := (cell_of_row V4 (M) 1 _ _ _ H2.out).trans rfl
  rw [rounds_succ]
  go_wp2_with fail
  refine (high_hib8 orig _).mono ?_
  clear ce
  rintro e w1 ⟨rfl, cs, hcs, rfl⟩
  have HC := Keep.mk hcs
  clear hcs
  go_wp2_with (at_builtin; refine wpList_append_new rfl (.tmp 61) (.tmp 63) rfl (N + 1) 24 8 c4 ao4 b4 (hib orig 8) cs V4 rfl rfl HC.out (hib_length _ _) HO.out (by omega) (by omega) (by omega) ?next)
  case next =>
  intro ao5 c5 V5 h1 h2
  obtain ⟨b5, hb5⟩ : ∃ b, b = b4 ++ hib orig 8 := ⟨_, rfl⟩
  rw [← hb5] at h1
  have HE5 := Keep.mk hb5
  clear hb5
  have H01 := Keep.mk ((h2.block N (by simp; omega) (ne_own (T := 0) (cells := #[]) HO.out (by omega))).trans ((Below.heap_alloc V4 _ N (by omega)).trans H0.out))
  have H21 := Keep.mk ((h2.block (M) (by simp; omega) (ne_type HO.out H2.out (by decide))).trans ((Below.heap_alloc V4 _ (M) (by omega)).trans H2.out))
  have HB1 := Keep.mk (below_grown HB.out HO.out (by omega) (by omega) h2)
  have HS1 : M + 1 ≤ V5.heap.size := by
    have := h2.size
    simp at this
    omega
  have HO1 := Keep.mk h1
  clear H0 H2 HB HS HO HC h1 h2 cs
  obtain ⟨H0, H2, HB, HS, HO⟩ := And.intro H01 (And.intro H21 (And.intro HB1 (And.intro HS1 HO1)))
  clear H01 H21 HB1 HS1 HO1
  go_wp2_with fail
  -- field recv
  have ce : V5.cell? ⟨M, 2, none⟩ = some (.int .u64 recv) := (cell_of_row V5 (M) 2 _ _ _ H2.out).trans rfl
  rw [rounds_succ]
  go_wp2_with fail
  refine (high_hib8 recv _).mono ?_
  clear ce
  rintro e w1 ⟨rfl, cs, hcs, rfl⟩
  have HC := Keep.mk hcs
  clear hcs
  go_wp2_with (at_builtin; refine wpList_append_new rfl (.tmp 61) (.tmp 63) rfl (N + 1) 32 8 c5 ao5 b5 (hib recv 8) cs V5 rfl rfl HC.out (hib_length _ _) HO.out (by omega) (by omega) (by omega) ?next)
  case next =>
  intro ao6 c6 V6 h1 h2
  obtain ⟨b6, hb6⟩ : ∃ b, b = b5 ++ hib recv 8 := ⟨_, rfl⟩
  rw [← hb6] at h1
  have HE6 := Keep.mk hb6
  clear hb6
  have H01 := Keep.mk ((h2.block N (by simp; omega) (ne_own (T := 0) (cells := #[]) HO.out (by omega))).trans ((Below.heap_alloc V5 _ N (by omega)).trans H0.out))
  have H21 := Keep.mk ((h2.block (M) (by simp; omega) (ne_type HO.out H2.out (by decide))).trans ((Below.heap_alloc V5 _ (M) (by omega)).trans H2.out))
  have HB1 := Keep.mk (below_grown HB.out HO.out (by omega) (by omega) h2)
  have HS1 : M + 1 ≤ V6.heap.size := by
    have := h2.size
    simp at this
    omega
  have HO1 := Keep.mk h1
  clear H0 H2 HB HS HO HC h1 h2 cs
  obtain ⟨H0, H2, HB, HS, HO⟩ := And.intro H01 (And.intro H21 (And.intro HB1 (And.intro HS1 HO1)))
  clear H01 H21 HB1 HS1 HO1
  go_wp2_with fail
  -- field xmit
  have ce : V6.cell? ⟨M, 3, none⟩ = some (.int .u64 xmit) := (cell_of_row V6 (M) 3 _ _ _ H2.out).trans rfl
  rw [rounds_succ]
  go_wp2_with fail
  refine (high_hib8 xmit _).mono ?_
  clear ce
  rintro e w1 ⟨rfl, cs, hcs, rfl⟩
  have HC := Keep.mk hcs
  clear hcs
  go_wp2_with (at_builtin; refine wpList_append_new rfl (.tmp 61) (.tmp 63) rfl (N + 1) 40 8 c6 ao6 b6 (hib xmit 8) cs V6 rfl rfl HC.out (hib_length _ _) HO.out (by omega) (by omega) (by omega) ?next)
  case next =>
  intro ao7 c7 V7 h1 h2
  obtain ⟨b7, hb7⟩ : ∃ b, b = b6 ++ hib xmit 8 := ⟨_, rfl⟩
  rw [← hb7] at h1
  have HE7 := Keep.mk hb7
  clear hb7
  have H01 := Keep.mk ((h2.block N (by simp; omega) (ne_own (T := 0) (cells := #[]) HO.out (by omega))).trans ((Below.heap_alloc V6 _ N (by omega)).trans H0.out))
  have H21 := Keep.mk ((h2.block (M) (by simp; omega) (ne_type HO.out H2.out (by decide))).trans ((Below.heap_alloc V6 _ (M) (by omega)).trans H2.out))
  have HB1 := Keep.mk (below_grown HB.out HO.out (by omega) (by omega) h2)
  have HS1 : M + 1 ≤ V7.heap.size := by
    have := h2.size
    simp at this
    omega
  have HO1 := Keep.mk h1
  clear H0 H2 HB HS HO HC h1 h2 cs
  obtain ⟨H0, H2, HB, HS, HO⟩ := And.intro H01 (And.intro H21 (And.intro HB1 (And.intro HS1 HO1)))
  clear H01 H21 HB1 HS1 HO1
  go_wp2_with fail
  -- the end
  have HQ : Keep (OwnAt N V7 (.slice ao7 48 c7) (bytes48 (first leap version mode) stratum poll prec rd disp rid ref orig recv xmit)) := by
    rw [HF.out]
    have e : b7 = bytes48 f stratum poll prec rd disp rid ref orig recv xmit := by
      rw [HE7.out, HE6.out, HE5.out, HE4.out, HE3.out, HE2.out, HE1.out, HE0.out]
      rfl
    rw [← e]
    have l : b7.length = 48 := by rw [e, bytes48_length]
    exact ⟨⟨ao7, c7, by rw [l], by rw [l]; exact own_lower HO.out (by omega)⟩⟩
  clear HO H0 H2
  rw [rounds_succ]
  go_wp2_with fail
  go_ret
  exact ⟨_, rfl, HN.out ▸ HQ.out, HN.out ▸ HB.out⟩

end Go.Proofs.Ytaanpoankljblaa.Bytes
