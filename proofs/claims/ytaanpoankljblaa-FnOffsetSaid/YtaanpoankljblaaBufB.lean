/- put: a number's bytes behind a buffer's, the highest one first. -/
import Derived.Test.YtaanpoankljblaaBufA
import Derived.IntWalk
namespace Go.Proofs.Ytaanpoankljblaa.BufB
open Go.RowKit Go.Proofs.Ytaanpoankljblaa.BufA
set_option linter.unusedVariables false
set_option linter.unusedSimpArgs false

/-- append of one byte to the call's own bytes, as one step of a region that draws its order. -/
theorem step_append_byte {ops : Array Oper} {o : Oper} {a : Act} {Q : Exit → Act → World → Prop} {K : Act → World → Prop} {E : Prop} {W : World} (base : Nat) (hgd : o.guard = none) (s x : Operand)
    (ho : o.op = .call { callee := .builtin .append, args := #[s, x], argTypes := #[40, 40] })
    (v : Value) (n : Nat) (xs : List Value) (ad : Addr) (y : Int) (hs : a.eval s = v) (hx : a.eval x = .slice (some ad) 1 1)
    (HO : W.ownsRow base 5 1 v n xs) (hc : W.cell? ad = some (.int .u8 y)) (hbase : base ≤ W.heap.size) (hl : n ≤ 100)
    (h : ∀ v1 w1, w1.ownsRow base 5 1 v1 (n + 1) (xs ++ [.int .u8 y]) → W.grownBy w1 v.ownBlock → K (a.put o.dst v1) w1) :
    if Region.wanted o (yielded ops a.tmps) = true then Oper.wp Try.prog o a W K Q else E := by
  have hw : Region.wanted o (yielded ops a.tmps) = true := by simp [Region.wanted, hgd]
  rw [if_pos hw]
  obtain ⟨i0, hi, hz0, hz1, hz2⟩ := info_parts info5
  refine wp_append_own _ s x 40 ho base 5 i0 (.int .u8 0) 1 1 Try.underlying40 hi hz0 hz1 hz2 rfl (by decide) v n xs hs HO ad 1 1 [.int .u8 y] hx rfl ?_ ?_ ?_ ?_ ?_ ?_
  · intro j u hj
    match j, hj with
    | 0, hj => simp at hj; subst hj; simpa [Addr.add] using hc
  · intro u hu; simp at hu; subst hu; rfl
  · unfold maxLen; omega
  · omega
  · exact hbase
  · intro v1 w1 h1 h2 _; exact h v1 w1 h1 h2

/-- The m lowest bytes of x, the highest one first. -/
def hib (x : Int) : Nat → List Int
  | 0 => []
  | m + 1 => (x / 2 ^ (8 * m) % 256) :: hib x m
theorem hib_length (x : Int) (m : Nat) : (hib x m).length = m := by induction m with | zero => rfl | succ m ih => simp [hib, ih]

/-- What has been written when m bytes are left. -/
def Done (x : Int) (n m : Nat) (d : List Int) : Prop := d ++ hib x m = hib x n
theorem Done.start (x : Int) (n : Nat) : Done x n n [] := rfl
theorem Done.step {x : Int} {n m : Nat} {d : List Int} (h : Done x n (m + 1) d) : Done x n m (d ++ [x / 2 ^ (8 * m) % 256]) := by
  unfold Done at *
  rw [← h]
  simp [hib]
theorem Done.all {x : Int} {n : Nat} {d : List Int} (h : Done x n 0 d) : d = hib x n := by
  unfold Done at h
  rw [← h]
  simp [hib]
theorem Done.len {x : Int} {n m : Nat} {d : List Int} (h : Done x n m d) : d.length + m = n := by
  have := congrArg List.length h
  simp [hib_length] at this
  exact this

set_option maxHeartbeats 400000 in
set_option maxRecDepth 100000 in
theorem put_any (base B n : Nat) (bs : List Int) (x : Int) (w : World) (hn : n ≤ 8) (hB : B < base) (hs : base ≤ w.heap.size) (hl : bs.length ≤ 90) (hbuf : BufAt base B w bs) :
    Calls Try.prog 90 #[.pointer (some ⟨B, 0, none⟩), .int .u64 x, .int .i64 n] w fun e w' => e = .returned (.tuple #[]) ∧ BufAt base B w' (bs ++ hib x n) ∧ Ex base B w w' := by
  have H0 := Keep.mk hbuf
  clear hbuf
  go_enter Try.func90, Try.ntmps90
  go_wp2_with fail
  go_loopw [6, 9] (fun i t wr => ∃ (m : Nat) (d : List Int), m ≤ n ∧ i = .int .i64 ((m : Int) - 1) ∧ Keep (Done x n m d) ∧ Keep (BufAt base B wr (bs ++ d)) ∧ Keep (Ex base B w wr)) (fun i t wr => ((intOf i) + 1).toNat)
  case atStart => exact ⟨n, [], Nat.le_refl _, rfl, ⟨Done.start x n⟩, ⟨by simpa using H0.out⟩, ⟨Ex.refl _ _ _⟩⟩
  case round =>
    obtain ⟨m, d, hm, rfl, HD, HB, HX⟩ := hrel
    clear H0
    cases m with
    | zero =>
      go_wp2_with fail
      go_end0
      have hd := HD.out.all
      subst hd
      exact ⟨rfl, HB.out, HX.out⟩
    | succ m =>
      have e : ((m + 1 : Nat) : Int) - 1 = (m : Int) := by omega
      rw [e]
      clear e
      have hl2 : bs.length + d.length ≤ 98 := by
        have := HD.out.len
        omega
      have hm7 : (m : Int) ≤ 7 := by omega
      have ht8 : (8 * (m : Int)).toNat = 8 * m := by omega
      have hx8 : IntKind.u8.wrap (x / 2 ^ (8 * m)) = x / 2 ^ (8 * m) % 256 := IntKind.wrap_u8 _
      have hw8 : IntKind.i64.wrap (8 * (m : Int)) = 8 * (m : Int) := IntWalk.i64_in _ (by omega)
      obtain ⟨ao, c, hb, ho⟩ := HB.out
      rw [List.length_append] at hb ho
      clear HB
      have hsz : base ≤ wr.heap.size := Nat.le_trans hs HX.out.size
      have c0 := (cell_one hb).1
      have f0 := (cell_one hb).2
      have c1 : (wr.alloc (.cells #[.int .u8 (x / 2 ^ (8 * m) % 256)] 5)).cell? ⟨B, 0, none⟩ = some (.slice ao (bs.length + d.length) c) := (World.cell?_alloc_lt wr _ ⟨B, 0, none⟩ (by show B < _; omega)).trans c0
      have HO := Keep.mk ho
      have HB := Keep.mk hb
      clear ho hb
      go_wp2_with fail
      go_region_law (refine step_append_byte base (by rfl) (.tmp 17) (.tmp 23) (by rfl) (.slice ao (bs.length + d.length) c) (bs.length + d.length) ((bs ++ d).map (Value.int .u8)) ⟨wr.heap.size, 0, none⟩ (x / 2 ^ (8 * m) % 256) (by rfl) (by rfl) (HO.out.alloc _) (by simp) (by simp; omega) (by omega) ?_; intro v' w' hown hgrow; clear c0 f0 c1; obtain ⟨A, c', rfl⟩ := own_slice hown; have hb' : w'.heap[B]? = some (.cells #[.slice ao (bs.length + d.length) c] 112 (0, 0)) := ((hgrow.block B (by simp; omega) (ne_own (T := 0) (cells := #[]) HO.out hB)).trans (Below.heap_alloc wr _ B (by omega))).trans HB.out; have c0 := (cell_one hb').1; have f0 := (cell_one hb').2; have H1 := Keep.mk hb'; have H2 := Keep.mk hown; have H3 := Keep.mk hgrow; clear hb' hown hgrow)
      all_goals
        have hx : Ex base B wr w' := (((Ex.refl base B wr).alloc hsz (.cells #[.int .u8 (x / 2 ^ (8 * m) % 256)] 5)).drew).trans (Ex.grown (w := (wr.alloc (.cells #[.int .u8 (x / 2 ^ (8 * m) % 256)] 5)).drew) (by simp; omega) (HO.out.alloc _) H3.out)
        have HY := Keep.mk (HX.out.trans hx)
        clear hx HX ht8 hx8 hw8
        go_wp2_with fail
        go_roundw
        case rel => exact ⟨m, d ++ [x / 2 ^ (8 * m) % 256], by omega, rfl, ⟨HD.out.step⟩, ⟨by rw [← List.append_assoc]; exact BufAt.stored hB (by simp; omega) H1.out (by simpa using H2.out)⟩, ⟨HY.out.setCell _ _⟩⟩
        case measure => simp [intOf]

end Go.Proofs.Ytaanpoankljblaa.BufB
