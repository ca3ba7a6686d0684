/- ZZFormat: the bytes of a header, by the fields' writers. -/
import Derived.Test.YtaanpoankljblaaBufC
namespace Go.Proofs.Ytaanpoankljblaa.FmtA
open Go.RowKit Go.Proofs.Ytaanpoankljblaa.BufA Go.Proofs.Ytaanpoankljblaa.BufB Go.Proofs.Ytaanpoankljblaa.BufC
set_option linter.unusedVariables false
set_option linter.unusedSimpArgs false

/-- The first byte of a header, as the three setters lay it. -/
def first (leap version mode : Int) : Int :=
  bits .or .u8 (bits .and .u8 (bits .or .u8 (bits .and .u8 (bits .or .u8 (bits .and .u8 0 199) (version % 256 * 8 % 256)) 248) (mode % 256)) 63) (leap * 64 % 256)

/-- The 48 bytes. -/
def bytes48 (f stratum poll prec rd disp rid ref orig recv xmit : Int) : List Int :=
  [f] ++ [stratum] ++ [poll % 256] ++ [prec % 256] ++ hib rd 4 ++ hib disp 4 ++ hib rid 4 ++ hib ref 8 ++ hib orig 8 ++ hib recv 8 ++ hib xmit 8
theorem bytes48_length (f stratum poll prec rd disp rid ref orig recv xmit : Int) : (bytes48 f stratum poll prec rd disp rid ref orig recv xmit).length = 48 := by
  simp [bytes48, hib_length]

/-- A slice of bytes in memory of the call's own. -/
def OwnAt (base : Nat) (w : World) (v : Value) (bs : List Int) : Prop := ∃ ao c, v = .slice ao bs.length c ∧ w.ownsRow base 5 1 (.slice ao bs.length c) bs.length (bs.map (Value.int .u8))

theorem four_last (w : World) (o1 o2 o3 o4 : Obj) : ((((w.alloc o1).alloc o2).alloc o3).alloc o4).heap[w.heap.size + 1 + 1 + 1]? = some o4 := by
  have := heap_alloc_new (((w.alloc o1).alloc o2).alloc o3) o4
  simpa using this
theorem four_third (w : World) (o1 o2 o3 o4 : Obj) : ((((w.alloc o1).alloc o2).alloc o3).alloc o4).heap[w.heap.size + 1 + 1]? = some o3 := by
  have := heap_alloc_new ((w.alloc o1).alloc o2) o3
  exact (Below.heap_alloc _ o4 _ (by simp)).trans (by simpa using this)
theorem four_below (w : World) (o1 o2 o3 o4 : Obj) : Below w.heap.size w ((((w.alloc o1).alloc o2).alloc o3).alloc o4) :=
  ((((Below.refl _ _).alloc (Nat.le_refl _) _).alloc (by simp) _).alloc (by simp; omega) _).alloc (by simp; omega) _

theorem own_lower {w : World} {base base' : Nat} {e : TypeId} {size n : Nat} {v : Value} {xs : List Value} (h : w.ownsRow base e size v n xs) (hb : base' ≤ base) : w.ownsRow base' e size v n xs := by
  obtain ⟨h1, h2⟩ := h
  refine ⟨h1, ?_⟩
  rcases h2 with h2 | ⟨g, cap, cur, rfl, hg, r⟩
  · exact .inl h2
  · exact .inr ⟨g, cap, cur, rfl, Nat.le_trans hb hg, r⟩


set_option maxHeartbeats 1600000 in
set_option maxRecDepth 100000 in
theorem zzformat (leap version mode stratum poll prec rd disp rid ref orig recv xmit : Int) (w : World)
    (r0 : 0 ≤ rd) (r1 : rd < 4294967296) (d0 : 0 ≤ disp) (d1 : disp < 4294967296) (i0 : 0 ≤ rid) (i1 : rid < 4294967296) :
    Calls Try.prog 52 #[.agg #[.int .u8 leap, .int .i64 version, .int .i64 mode, .int .u8 stratum, .int .i8 poll, .int .i8 prec, .int .u32 rd, .int .u32 disp, .int .u32 rid, .int .u64 ref, .int .u64 orig, .int .u64 recv, .int .u64 xmit]] w
      fun e w' => ∃ v, e = .returned v ∧ OwnAt w.heap.size w' v (bytes48 (first leap version mode) stratum poll prec rd disp rid ref orig recv xmit) ∧ Below w.heap.size w w' := by
  have R0 := Keep.mk r0
  have R1 := Keep.mk r1
  have D0 := Keep.mk d0
  have D1 := Keep.mk d1
  have I0 := Keep.mk i0
  have I1 := Keep.mk i1
  clear r0 r1 d0 d1 i0 i1
  go_enter Try.func52, Try.ntmps52
  go_wp2
  go_end0
  go_wp2
  go_end0
  go_wp2
  go_end0
  go_wp2
  generalize hf : (bits .or .u8 (bits .and .u8 (bits .or .u8 (bits .and .u8 (bits .or .u8 (bits .and .u8 0 199) (version % 256 * 8 % 256)) 248) (mode % 256)) 63) (leap * 64 % 256)) = f
  have HF : Keep (first leap version mode = f) := ⟨hf⟩
  clear hf
  obtain ⟨N, hN⟩ : ∃ N, N = w.heap.size := ⟨_, rfl⟩
  generalize hW : World.alloc _ _ = Wv
  have HG : Keep (Wv.heap[N + 1 + 1 + 1]? = some (.cells #[.iface 5 (.int .u8 f), .iface 5 (.int .u8 stratum), .iface 75 (.int .i8 poll), .iface 75 (.int .i8 prec), .iface 102 (.int .u32 rd), .iface 102 (.int .u32 disp), .iface 22 (.int .u32 rid), .iface 100 (.int .u64 ref), .iface 100 (.int .u64 orig), .iface 100 (.int .u64 recv), .iface 100 (.int .u64 xmit)] 20 (0, 0))) := by
    subst hN
    rw [← hW]
    exact ⟨four_last _ _ _ _ _⟩
  have HB : Keep (BufAt (N + 1 + 1 + 1 + 1) (N + 1 + 1) Wv []) := by
    subst hN
    rw [← hW]
    exact ⟨none, 0, four_third _ _ _ _ _, World.ownsRow_nil _ _ _ _⟩
  have HS : N + 1 + 1 + 1 + 1 ≤ Wv.heap.size := by
    subst hN
    rw [← hW]
    simp
  have HW : Keep (Below N w Wv) := by
    subst hN
    rw [← hW]
    exact ⟨four_below _ _ _ _ _⟩
  rw [← hN]
  have HN : Keep (N = w.heap.size) := ⟨hN⟩
  clear hW hN
  refine wp_loop_rounds 12 ?_
  -- field 0
  have ce : Wv.cell? ⟨N + 1 + 1 + 1, 0, none⟩ = some (.iface 5 (.int .u8 f)) := (cell_of_row Wv (N + 1 + 1 + 1) 0 _ _ _ HG.out).trans rfl
  rw [rounds_succ]
  go_wp2_with fail
  refine (write_u8 (N + 1 + 1 + 1 + 1) (N + 1 + 1) ([]) f _ (by omega) HS (by simp [hib_length]) HB.out).mono ?_
  clear ce
  rintro e W1 ⟨rfl, hb, hx⟩
  have HG1 := Keep.mk ((hx.block (N + 1 + 1 + 1) (by omega) (by omega)).trans HG.out)
  have HW1 := Keep.mk (HW.out.trans (hx.below (N := N) (by omega) (by omega)))
  have HB1 := Keep.mk hb
  have HS1 := Nat.le_trans HS hx.size
  clear HG HW HB HS hb hx
  obtain ⟨HG, HW, HB, HS⟩ := And.intro HG1 (And.intro HW1 (And.intro HB1 HS1))
  clear HG1 HW1 HB1 HS1
  go_wp2_with fail
  clear Wv
  obtain ⟨Wv, hWv⟩ : ∃ Wv, Wv = W1 := ⟨_, rfl⟩
  subst hWv
  -- field 1
  have ce : Wv.cell? ⟨N + 1 + 1 + 1, 1, none⟩ = some (.iface 5 (.int .u8 stratum)) := (cell_of_row Wv (N + 1 + 1 + 1) 1 _ _ _ HG.out).trans rfl
  rw [rounds_succ]
  go_wp2_with fail
  refine (write_u8 (N + 1 + 1 + 1 + 1) (N + 1 + 1) ([] ++ [f]) stratum _ (by omega) HS (by simp [hib_length]) HB.out).mono ?_
  clear ce
  rintro e W1 ⟨rfl, hb, hx⟩
  have HG1 := Keep.mk ((hx.block (N + 1 + 1 + 1) (by omega) (by omega)).trans HG.out)
  have HW1 := Keep.mk (HW.out.trans (hx.below (N := N) (by omega) (by omega)))
  have HB1 := Keep.mk hb
  have HS1 := Nat.le_trans HS hx.size
  clear HG HW HB HS hb hx
  obtain ⟨HG, HW, HB, HS⟩ := And.intro HG1 (And.intro HW1 (And.intro HB1 HS1))
  clear HG1 HW1 HB1 HS1
  go_wp2_with fail
  clear Wv
  obtain ⟨Wv, hWv⟩ : ∃ Wv, Wv = W1 := ⟨_, rfl⟩
  subst hWv
  -- field 2
  have ce : Wv.cell? ⟨N + 1 + 1 + 1, 2, none⟩ = some (.iface 75 (.int .i8 poll)) := (cell_of_row Wv (N + 1 + 1 + 1) 2 _ _ _ HG.out).trans rfl
  rw [rounds_succ]
  go_wp2_with fail
  refine (write_i8 (N + 1 + 1 + 1 + 1) (N + 1 + 1) ([] ++ [f] ++ [stratum]) poll _ (by omega) HS (by simp [hib_length]) HB.out).mono ?_
  clear ce
  rintro e W1 ⟨rfl, hb, hx⟩
  have HG1 := Keep.mk ((hx.block (N + 1 + 1 + 1) (by omega) (by omega)).trans HG.out)
  have HW1 := Keep.mk (HW.out.trans (hx.below (N := N) (by omega) (by omega)))
  have HB1 := Keep.mk hb
  have HS1 := Nat.le_trans HS hx.size
  clear HG HW HB HS hb hx
  obtain ⟨HG, HW, HB, HS⟩ := And.intro HG1 (And.intro HW1 (And.intro HB1 HS1))
  clear HG1 HW1 HB1 HS1
  go_wp2_with fail
  clear Wv
  obtain ⟨Wv, hWv⟩ : ∃ Wv, Wv = W1 := ⟨_, rfl⟩
  subst hWv
  -- field 3
  have ce : Wv.cell? ⟨N + 1 + 1 + 1, 3, none⟩ = some (.iface 75 (.int .i8 prec)) := (cell_of_row Wv (N + 1 + 1 + 1) 3 _ _ _ HG.out).trans rfl
  rw [rounds_succ]
  go_wp2_with fail
  refine (write_i8 (N + 1 + 1 + 1 + 1) (N + 1 + 1) ([] ++ [f] ++ [stratum] ++ [poll % 256]) prec _ (by omega) HS (by simp [hib_length]) HB.out).mono ?_
  clear ce
  rintro e W1 ⟨rfl, hb, hx⟩
  have HG1 := Keep.mk ((hx.block (N + 1 + 1 + 1) (by omega) (by omega)).trans HG.out)
  have HW1 := Keep.mk (HW.out.trans (hx.below (N := N) (by omega) (by omega)))
  have HB1 := Keep.mk hb
  have HS1 := Nat.le_trans HS hx.size
  clear HG HW HB HS hb hx
  obtain ⟨HG, HW, HB, HS⟩ := And.intro HG1 (And.intro HW1 (And.intro HB1 HS1))
  clear HG1 HW1 HB1 HS1
  go_wp2_with fail
  clear Wv
  obtain ⟨Wv, hWv⟩ : ∃ Wv, Wv = W1 := ⟨_, rfl⟩
  subst hWv
  -- field 4
  have ce : Wv.cell? ⟨N + 1 + 1 + 1, 4, none⟩ = some (.iface 102 (.int .u32 rd)) := (cell_of_row Wv (N + 1 + 1 + 1) 4 _ _ _ HG.out).trans rfl
  rw [rounds_succ]
  go_wp2_with fail
  refine (write_short (N + 1 + 1 + 1 + 1) (N + 1 + 1) ([] ++ [f] ++ [stratum] ++ [poll % 256] ++ [prec % 256]) rd _ R0.out R1.out (by omega) HS (by simp [hib_length]) HB.out).mono ?_
  clear ce
  rintro e W1 ⟨rfl, hb, hx⟩
  have HG1 := Keep.mk ((hx.block (N + 1 + 1 + 1) (by omega) (by omega)).trans HG.out)
  have HW1 := Keep.mk (HW.out.trans (hx.below (N := N) (by omega) (by omega)))
  have HB1 := Keep.mk hb
  have HS1 := Nat.le_trans HS hx.size
  clear HG HW HB HS hb hx
  obtain ⟨HG, HW, HB, HS⟩ := And.intro HG1 (And.intro HW1 (And.intro HB1 HS1))
  clear HG1 HW1 HB1 HS1
  go_wp2_with fail
  clear Wv
  obtain ⟨Wv, hWv⟩ : ∃ Wv, Wv = W1 := ⟨_, rfl⟩
  subst hWv
  -- field 5
  have ce : Wv.cell? ⟨N + 1 + 1 + 1, 5, none⟩ = some (.iface 102 (.int .u32 disp)) := (cell_of_row Wv (N + 1 + 1 + 1) 5 _ _ _ HG.out).trans rfl
  rw [rounds_succ]
  go_wp2_with fail
  refine (write_short (N + 1 + 1 + 1 + 1) (N + 1 + 1) ([] ++ [f] ++ [stratum] ++ [poll % 256] ++ [prec % 256] ++ hib rd 4) disp _ D0.out D1.out (by omega) HS (by simp [hib_length]) HB.out).mono ?_
  clear ce
  rintro e W1 ⟨rfl, hb, hx⟩
  have HG1 := Keep.mk ((hx.block (N + 1 + 1 + 1) (by omega) (by omega)).trans HG.out)
  have HW1 := Keep.mk (HW.out.trans (hx.below (N := N) (by omega) (by omega)))
  have HB1 := Keep.mk hb
  have HS1 := Nat.le_trans HS hx.size
  clear HG HW HB HS hb hx
  obtain ⟨HG, HW, HB, HS⟩ := And.intro HG1 (And.intro HW1 (And.intro HB1 HS1))
  clear HG1 HW1 HB1 HS1
  go_wp2_with fail
  clear Wv
  obtain ⟨Wv, hWv⟩ : ∃ Wv, Wv = W1 := ⟨_, rfl⟩
  subst hWv
  -- field 6
  have ce : Wv.cell? ⟨N + 1 + 1 + 1, 6, none⟩ = some (.iface 22 (.int .u32 rid)) := (cell_of_row Wv (N + 1 + 1 + 1) 6 _ _ _ HG.out).trans rfl
  rw [rounds_succ]
  go_wp2_with fail
  refine (write_u32 (N + 1 + 1 + 1 + 1) (N + 1 + 1) ([] ++ [f] ++ [stratum] ++ [poll % 256] ++ [prec % 256] ++ hib rd 4 ++ hib disp 4) rid _ I0.out I1.out (by omega) HS (by simp [hib_length]) HB.out).mono ?_
  clear ce
  rintro e W1 ⟨rfl, hb, hx⟩
  have HG1 := Keep.mk ((hx.block (N + 1 + 1 + 1) (by omega) (by omega)).trans HG.out)
  have HW1 := Keep.mk (HW.out.trans (hx.below (N := N) (by omega) (by omega)))
  have HB1 := Keep.mk hb
  have HS1 := Nat.le_trans HS hx.size
  clear HG HW HB HS hb hx
  obtain ⟨HG, HW, HB, HS⟩ := And.intro HG1 (And.intro HW1 (And.intro HB1 HS1))
  clear HG1 HW1 HB1 HS1
  go_wp2_with fail
  clear Wv
  obtain ⟨Wv, hWv⟩ : ∃ Wv, Wv = W1 := ⟨_, rfl⟩
  subst hWv
  -- field 7
  have ce : Wv.cell? ⟨N + 1 + 1 + 1, 7, none⟩ = some (.iface 100 (.int .u64 ref)) := (cell_of_row Wv (N + 1 + 1 + 1) 7 _ _ _ HG.out).trans rfl
  rw [rounds_succ]
  go_wp2_with fail
  refine (write_stamp (N + 1 + 1 + 1 + 1) (N + 1 + 1) ([] ++ [f] ++ [stratum] ++ [poll % 256] ++ [prec % 256] ++ hib rd 4 ++ hib disp 4 ++ hib rid 4) ref _ (by omega) HS (by simp [hib_length]) HB.out).mono ?_
  clear ce
  rintro e W1 ⟨rfl, hb, hx⟩
  have HG1 := Keep.mk ((hx.block (N + 1 + 1 + 1) (by omega) (by omega)).trans HG.out)
  have HW1 := Keep.mk (HW.out.trans (hx.below (N := N) (by omega) (by omega)))
  have HB1 := Keep.mk hb
  have HS1 := Nat.le_trans HS hx.size
  clear HG HW HB HS hb hx
  obtain ⟨HG, HW, HB, HS⟩ := And.intro HG1 (And.intro HW1 (And.intro HB1 HS1))
  clear HG1 HW1 HB1 HS1
  go_wp2_with fail
  clear Wv
  obtain ⟨Wv, hWv⟩ : ∃ Wv, Wv = W1 := ⟨_, rfl⟩
  subst hWv
  -- field 8
  have ce : Wv.cell? ⟨N + 1 + 1 + 1, 8, none⟩ = some (.iface 100 (.int .u64 orig)) := (cell_of_row Wv (N + 1 + 1 + 1) 8 _ _ _ HG.out).trans rfl
  rw [rounds_succ]
  go_wp2_with fail
  refine (write_stamp (N + 1 + 1 + 1 + 1) (N + 1 + 1) ([] ++ [f] ++ [stratum] ++ [poll % 256] ++ [prec % 256] ++ hib rd 4 ++ hib disp 4 ++ hib rid 4 ++ hib ref 8) orig _ (by omega) HS (by simp [hib_length]) HB.out).mono ?_
  clear ce
  rintro e W1 ⟨rfl, hb, hx⟩
  have HG1 := Keep.mk ((hx.block (N + 1 + 1 + 1) (by omega) (by omega)).trans HG.out)
  have HW1 := Keep.mk (HW.out.trans (hx.below (N := N) (by omega) (by omega)))
  have HB1 := Keep.mk hb
  have HS1 := Nat.le_trans HS hx.size
  clear HG HW HB HS hb hx
  obtain ⟨HG, HW, HB, HS⟩ := And.intro HG1 (And.intro HW1 (And.intro HB1 HS1))
  clear HG1 HW1 HB1 HS1
  go_wp2_with fail
  clear Wv
  obtain ⟨Wv, hWv⟩ : ∃ Wv, Wv = W1 := ⟨_, rfl⟩
  subst hWv
  -- field 9
  have ce : Wv.cell? ⟨N + 1 + 1 + 1, 9, none⟩ = some (.iface 100 (.int .u64 recv)) := (cell_of_row Wv (N + 1 + 1 + 1) 9 _ _ _ HG.out).trans rfl
  rw [rounds_succ]
  go_wp2_with fail
  refine (write_stamp (N + 1 + 1 + 1 + 1) (N + 1 + 1) ([] ++ [f] ++ [stratum] ++ [poll % 256] ++ [prec % 256] ++ hib rd 4 ++ hib disp 4 ++ hib rid 4 ++ hib ref 8 ++ hib orig 8) recv _ (by omega) HS (by simp [hib_length]) HB.out).mono ?_
  clear ce
  rintro e W1 ⟨rfl, hb, hx⟩
  have HG1 := Keep.mk ((hx.block (N + 1 + 1 + 1) (by omega) (by omega)).trans HG.out)
  have HW1 := Keep.mk (HW.out.trans (hx.below (N := N) (by omega) (by omega)))
  have HB1 := Keep.mk hb
  have HS1 := Nat.le_trans HS hx.size
  clear HG HW HB HS hb hx
  obtain ⟨HG, HW, HB, HS⟩ := And.intro HG1 (And.intro HW1 (And.intro HB1 HS1))
  clear HG1 HW1 HB1 HS1
  go_wp2_with fail
  clear Wv
  obtain ⟨Wv, hWv⟩ : ∃ Wv, Wv = W1 := ⟨_, rfl⟩
  subst hWv
  -- field 10
  have ce : Wv.cell? ⟨N + 1 + 1 + 1, 10, none⟩ = some (.iface 100 (.int .u64 xmit)) := (cell_of_row Wv (N + 1 + 1 + 1) 10 _ _ _ HG.out).trans rfl
  rw [rounds_succ]
  go_wp2_with fail
  refine (write_stamp (N + 1 + 1 + 1 + 1) (N + 1 + 1) ([] ++ [f] ++ [stratum] ++ [poll % 256] ++ [prec % 256] ++ hib rd 4 ++ hib disp 4 ++ hib rid 4 ++ hib ref 8 ++ hib orig 8 ++ hib recv 8) xmit _ (by omega) HS (by simp [hib_length]) HB.out).mono ?_
  clear ce
  rintro e W1 ⟨rfl, hb, hx⟩
  have HG1 := Keep.mk ((hx.block (N + 1 + 1 + 1) (by omega) (by omega)).trans HG.out)
  have HW1 := Keep.mk (HW.out.trans (hx.below (N := N) (by omega) (by omega)))
  have HB1 := Keep.mk hb
  have HS1 := Nat.le_trans HS hx.size
  clear HG HW HB HS hb hx
  obtain ⟨HG, HW, HB, HS⟩ := And.intro HG1 (And.intro HW1 (And.intro HB1 HS1))
  clear HG1 HW1 HB1 HS1
  go_wp2_with fail
  clear Wv
  obtain ⟨Wv, hWv⟩ : ∃ Wv, Wv = W1 := ⟨_, rfl⟩
  subst hWv
  -- the end
  have HB2 : Keep (BufAt (N + 1 + 1 + 1 + 1) (N + 1 + 1) Wv (bytes48 f stratum poll prec rd disp rid ref orig recv xmit)) := ⟨HB.out⟩
  clear HB
  obtain ⟨ao, c, hb, ho⟩ := HB2.out
  clear HB2
  have HQ : Keep (OwnAt N Wv (.slice ao 48 c) (bytes48 (first leap version mode) stratum poll prec rd disp rid ref orig recv xmit)) := by
    rw [HF.out]
    exact ⟨ao, c, by rw [bytes48_length], own_lower ho (by omega)⟩
  rw [bytes48_length] at hb
  have c0 := (cell_one hb).1
  clear hb ho HG
  rw [rounds_succ]
  go_wp2_with fail
  go_ret
  exact ⟨_, rfl, HN.out ▸ HQ.out, HN.out ▸ HW.out⟩

end Go.Proofs.Ytaanpoankljblaa.FmtA
