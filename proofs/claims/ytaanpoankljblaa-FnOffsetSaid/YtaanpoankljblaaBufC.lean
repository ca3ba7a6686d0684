/- writeBE at each kind of a header's field. -/
import Derived.Test.YtaanpoankljblaaBufB
namespace Go.Proofs.Ytaanpoankljblaa.BufC
open Go.RowKit Go.Proofs.Ytaanpoankljblaa.BufA Go.Proofs.Ytaanpoankljblaa.BufB
set_option linter.unusedVariables false
set_option linter.unusedSimpArgs false

theorem ta_75_5 (x : Value) (w : World) : (Instr.typeAssert (.iface 75 x) 20 5 true).run Try.prog w = .ok (.tuple #[.int .u8 0, .bool false]) w := by kernel_rfl
theorem ta_75_75 (x : Value) (w : World) : (Instr.typeAssert (.iface 75 x) 20 75 true).run Try.prog w = .ok (.tuple #[x, .bool true]) w := by kernel_rfl
theorem ta_102_5 (x : Value) (w : World) : (Instr.typeAssert (.iface 102 x) 20 5 true).run Try.prog w = .ok (.tuple #[.int .u8 0, .bool false]) w := by kernel_rfl
theorem ta_102_75 (x : Value) (w : World) : (Instr.typeAssert (.iface 102 x) 20 75 true).run Try.prog w = .ok (.tuple #[.int .i8 0, .bool false]) w := by kernel_rfl
theorem ta_102_102 (x : Value) (w : World) : (Instr.typeAssert (.iface 102 x) 20 102 true).run Try.prog w = .ok (.tuple #[x, .bool true]) w := by kernel_rfl
theorem ta_22_5 (x : Value) (w : World) : (Instr.typeAssert (.iface 22 x) 20 5 true).run Try.prog w = .ok (.tuple #[.int .u8 0, .bool false]) w := by kernel_rfl
theorem ta_22_75 (x : Value) (w : World) : (Instr.typeAssert (.iface 22 x) 20 75 true).run Try.prog w = .ok (.tuple #[.int .i8 0, .bool false]) w := by kernel_rfl
theorem ta_22_102 (x : Value) (w : World) : (Instr.typeAssert (.iface 22 x) 20 102 true).run Try.prog w = .ok (.tuple #[.int .u32 0, .bool false]) w := by kernel_rfl
theorem ta_22_22 (x : Value) (w : World) : (Instr.typeAssert (.iface 22 x) 20 22 true).run Try.prog w = .ok (.tuple #[x, .bool true]) w := by kernel_rfl
theorem ta_100_5 (x : Value) (w : World) : (Instr.typeAssert (.iface 100 x) 20 5 true).run Try.prog w = .ok (.tuple #[.int .u8 0, .bool false]) w := by kernel_rfl
theorem ta_100_75 (x : Value) (w : World) : (Instr.typeAssert (.iface 100 x) 20 75 true).run Try.prog w = .ok (.tuple #[.int .i8 0, .bool false]) w := by kernel_rfl
theorem ta_100_102 (x : Value) (w : World) : (Instr.typeAssert (.iface 100 x) 20 102 true).run Try.prog w = .ok (.tuple #[.int .u32 0, .bool false]) w := by kernel_rfl
theorem ta_100_22 (x : Value) (w : World) : (Instr.typeAssert (.iface 100 x) 20 22 true).run Try.prog w = .ok (.tuple #[.int .u32 0, .bool false]) w := by kernel_rfl
theorem ta_100_100 (x : Value) (w : World) : (Instr.typeAssert (.iface 100 x) 20 100 true).run Try.prog w = .ok (.tuple #[x, .bool true]) w := by kernel_rfl

set_option maxHeartbeats 400000 in
set_option maxRecDepth 100000 in
theorem write_i8 (base B : Nat) (bs : List Int) (x : Int) (w : World) (hB : B < base) (hs : base ≤ w.heap.size) (hl : bs.length ≤ 90) (hbuf : BufAt base B w bs) :
    Calls Try.prog 73 #[.pointer (some ⟨B, 0, none⟩), .iface 75 (.int .i8 x)] w fun e w' => e = .returned (.tuple #[]) ∧ BufAt base B w' (bs ++ [x % 256]) ∧ Ex base B w w' := by
  obtain ⟨ao, c, hb, ho⟩ := hbuf
  have c0 := (cell_one hb).1
  have f0 := (cell_one hb).2
  have HO := Keep.mk ho
  have HB := Keep.mk hb
  clear ho hb
  obtain ⟨i0, hi, hz0, hz1, hz2⟩ := info_parts info5
  have t0 := ta_75_5
  have t1 := ta_75_75
  go_enter Try.func73, Try.ntmps73
  go_wp2_with (at_builtin; refine wpList_append_own _ rfl (.tmp 30) (.tmp 33) 40 rfl base 5 i0 (.int .u8 0) 1 1 Try.underlying40 hi hz0 hz1 hz2 rfl (by decide) _ _ _ rfl (HO.out.alloc _) ⟨w.heap.size, 0, none⟩ 1 1 [.int .u8 (x % 256)] rfl rfl ?c1 ?c2 ?c3 ?c4 ?c5 ?next)
  case c1 => intro j u hj; match j, hj with | 0, hj => simp at hj; subst hj; simp [Addr.add]
  case c2 => intro u hu; simp at hu; subst hu; rfl
  case c3 => unfold maxLen; omega
  case c4 => omega
  case c5 => simp; omega
  case next =>
    intro v' w' hown hgrow _
    obtain ⟨A, c', rfl⟩ := own_slice hown
    have hx : Ex base B w w' := ((Ex.refl base B w).alloc hs _).trans (Ex.grown (by simp; omega) (HO.out.alloc _) hgrow)
    have hb' : w'.heap[B]? = some (.cells #[.slice ao bs.length c] 112 (0, 0)) := by
      rw [hgrow.block B (by simp; omega) (ne_own (T := 0) (cells := #[]) HO.out hB), Below.heap_alloc _ _ _ (by omega)]
      exact HB.out
    have d0 := (cell_one hb').1
    have e0 := (cell_one hb').2
    have H1 := Keep.mk hb'
    have H2 := Keep.mk hx
    have H3 := Keep.mk hown
    clear hb' hx hown hgrow c0 f0 hi hz0 hz1 hz2 t0 t1
    go_wp2
    go_end0
    exact ⟨rfl, BufAt.stored hB (by simp) H1.out (by simpa using H3.out), H2.out.setCell _ _⟩

set_option maxHeartbeats 400000 in
set_option maxRecDepth 100000 in
theorem write_short (base B : Nat) (bs : List Int) (x : Int) (w : World) (h0 : 0 ≤ x) (h1 : x < 4294967296) (hB : B < base) (hs : base ≤ w.heap.size) (hl : bs.length ≤ 90) (hbuf : BufAt base B w bs) :
    Calls Try.prog 73 #[.pointer (some ⟨B, 0, none⟩), .iface 102 (.int .u32 x)] w fun e w' => e = .returned (.tuple #[]) ∧ BufAt base B w' (bs ++ hib x 4) ∧ Ex base B w w' := by
  have HP := Keep.mk (put_any base B 4 bs x w (by omega) hB hs hl hbuf)
  clear hbuf
  have t0 := ta_102_5
  have t1 := ta_102_75
  have t2 := ta_102_102
  go_enter Try.func73, Try.ntmps73
  go_wp2_with fail
  refine HP.out.mono ?_
  rintro e w1 ⟨rfl, hb, hx⟩
  have H1 := Keep.mk hb
  have H2 := Keep.mk hx
  clear hb hx
  go_wp2_with fail
  go_end0
  exact ⟨rfl, H1.out, H2.out⟩

set_option maxHeartbeats 400000 in
set_option maxRecDepth 100000 in
theorem write_u32 (base B : Nat) (bs : List Int) (x : Int) (w : World) (h0 : 0 ≤ x) (h1 : x < 4294967296) (hB : B < base) (hs : base ≤ w.heap.size) (hl : bs.length ≤ 90) (hbuf : BufAt base B w bs) :
    Calls Try.prog 73 #[.pointer (some ⟨B, 0, none⟩), .iface 22 (.int .u32 x)] w fun e w' => e = .returned (.tuple #[]) ∧ BufAt base B w' (bs ++ hib x 4) ∧ Ex base B w w' := by
  have HP := Keep.mk (put_any base B 4 bs x w (by omega) hB hs hl hbuf)
  clear hbuf
  have t0 := ta_22_5
  have t1 := ta_22_75
  have t2 := ta_22_102
  have t3 := ta_22_22
  go_enter Try.func73, Try.ntmps73
  go_wp2_with fail
  refine HP.out.mono ?_
  rintro e w1 ⟨rfl, hb, hx⟩
  have H1 := Keep.mk hb
  have H2 := Keep.mk hx
  clear hb hx
  go_wp2_with fail
  go_end0
  exact ⟨rfl, H1.out, H2.out⟩

set_option maxHeartbeats 400000 in
set_option maxRecDepth 100000 in
theorem write_stamp (base B : Nat) (bs : List Int) (x : Int) (w : World) (hB : B < base) (hs : base ≤ w.heap.size) (hl : bs.length ≤ 90) (hbuf : BufAt base B w bs) :
    Calls Try.prog 73 #[.pointer (some ⟨B, 0, none⟩), .iface 100 (.int .u64 x)] w fun e w' => e = .returned (.tuple #[]) ∧ BufAt base B w' (bs ++ hib x 8) ∧ Ex base B w w' := by
  have HP := Keep.mk (put_any base B 8 bs x w (by omega) hB hs hl hbuf)
  clear hbuf
  have t0 := ta_100_5
  have t1 := ta_100_75
  have t2 := ta_100_102
  have t3 := ta_100_22
  have t4 := ta_100_100
  go_enter Try.func73, Try.ntmps73
  go_wp2_with fail
  refine HP.out.mono ?_
  rintro e w1 ⟨rfl, hb, hx⟩
  have H1 := Keep.mk hb
  have H2 := Keep.mk hx
  clear hb hx
  go_wp2_with fail
  go_end0
  exact ⟨rfl, H1.out, H2.out⟩

end Go.Proofs.Ytaanpoankljblaa.BufC
