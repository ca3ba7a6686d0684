/- parseV4Response: an answer's header read; another one's refused. -/
import Derived.Test.YtaanpoankljblaaRdB
import Derived.BigQuiet
namespace Go.Proofs.Ytaanpoankljblaa.RdC
open Go.RowKit Go.Proofs.Ytaanpoankljblaa.RdA Go.Proofs.Ytaanpoankljblaa.RdB
set_option linter.unusedVariables false
set_option linter.unusedSimpArgs false

/-- The 48 bytes of a header lie at the head of block g. -/
def Hdr (w : World) (g : Nat) (f stratum poll prec rd disp rid ref orig recv xmit : Int) : Prop :=
  Bytes w g 0 1 f ∧ Bytes w g 1 1 stratum ∧ Bytes w g 2 1 (poll % 256) ∧ Bytes w g 3 1 (prec % 256) ∧ Bytes w g 4 4 rd ∧ Bytes w g 8 4 disp ∧ Bytes w g 12 4 rid ∧ Bytes w g 16 8 ref ∧ Bytes w g 24 8 orig ∧ Bytes w g 32 8 recv ∧ Bytes w g 40 8 xmit

theorem Hdr.same {w w' : World} {g : Nat} {f stratum poll prec rd disp rid ref orig recv xmit : Int} (h : Hdr w g f stratum poll prec rd disp rid ref orig recv xmit) (hs : w'.heap[g]? = w.heap[g]?) : Hdr w' g f stratum poll prec rd disp rid ref orig recv xmit := by
  have e : ∀ j, w'.cell? ⟨g, j, none⟩ = w.cell? ⟨g, j, none⟩ := fun j => by simp [World.cell?, hs]
  obtain ⟨h0, h1, h2, h3, h4, h5, h6, h7, h8, h9, h10⟩ := h
  exact ⟨fun j hj => (e _).trans (h0 j hj), fun j hj => (e _).trans (h1 j hj), fun j hj => (e _).trans (h2 j hj), fun j hj => (e _).trans (h3 j hj), fun j hj => (e _).trans (h4 j hj), fun j hj => (e _).trans (h5 j hj), fun j hj => (e _).trans (h6 j hj), fun j hj => (e _).trans (h7 j hj), fun j hj => (e _).trans (h8 j hj), fun j hj => (e _).trans (h9 j hj), fun j hj => (e _).trans (h10 j hj)⟩

/-- The numbers' bounds. -/
structure Fits (f stratum poll prec rd disp rid ref orig recv xmit : Int) : Prop where
  l0 : 0 ≤ f
  u0 : f < 256
  l1 : 0 ≤ stratum
  u1 : stratum < 256
  l2 : -128 ≤ poll
  u2 : poll < 128
  l3 : -128 ≤ prec
  u3 : prec < 128
  l4 : 0 ≤ rd
  u4 : rd < 4294967296
  l5 : 0 ≤ disp
  u5 : disp < 4294967296
  l6 : 0 ≤ rid
  u6 : rid < 4294967296
  l7 : 0 ≤ ref
  u7 : ref < 18446744073709551616
  l8 : 0 ≤ orig
  u8 : orig < 18446744073709551616
  l9 : 0 ≤ recv
  u9 : recv < 18446744073709551616
  l10 : 0 ≤ xmit
  u10 : xmit < 18446744073709551616

/-- What a read does: the reader's slice, then the message's field. -/
theorem two_sets {N M R f : Nat} {s u v : Value} {ms : Array Value} {w0 w w' : World} (hw : w' = (w.setCell ⟨R, 0, none⟩ s).setCell ⟨M, f, none⟩ v) (hne : M ≠ R) (hM : w.heap[M]? = some (.cells ms 105 (0, 0))) (hR : w.heap[R]? = some (.cells #[u] 145 (0, 0)))
    (hb : Below N w0 w) (h1 : N ≤ M) (h2 : N ≤ R) :
    w'.heap[M]? = some (.cells (ms.setIfInBounds f v) 105 (0, 0)) ∧ w'.heap[R]? = some (.cells #[s] 145 (0, 0)) ∧ (∀ k, k ≠ M → k ≠ R → w'.heap[k]? = w.heap[k]?) ∧ Below N w0 w' := by
  subst hw
  refine ⟨?_, ?_, fun k a b => ?_, (hb.setCell (p := ⟨R, 0, none⟩) h2 s).setCell (p := ⟨M, f, none⟩) h1 v⟩
  · have hne' : ¬ R = M := fun e => hne e.symm
    simp [World.setCell, Array.getElem?_modify, hM, hne']
  · simp [World.setCell, Array.getElem?_modify, hR, hne]
  · rw [Below.heap_setCell _ _ _ _ a, Below.heap_setCell _ _ _ _ b]

theorem below_drewN {B : Nat} {a w : World} (h : Below B a w) (n : Nat) : Below B a (w.drewN n) := h.trans ⟨rfl, rfl, rfl, Nat.le_refl _, fun _ _ => rfl⟩

theorem u8_and3 (x : Int) (h₀ : 0 ≤ x) (h₁ : x < 256) : bits .and .u8 x 3 = x % 4 := bits_mask .u8 8 (by decide) wraps_u8 2 (by decide) x h₀ h₁

set_option maxHeartbeats 400000 in
theorem get_mode (M : Nat) (f : Int) (w : World) (h0 : 0 ≤ f) (h1 : f < 256) (hc : w.cell? ⟨M, 0, none⟩ = some (.int .u8 f)) :
    Calls Try.prog 77 #[.pointer (some ⟨M, 0, none⟩)] w fun e w' => e = .returned (.int .u8 (f % 8)) ∧ w = w' := by
  have hm := u8_and7 f h0 h1
  go_enter Try.func77, Try.ntmps77
  go_wp2
  go_ret
  exact ⟨rfl, rfl⟩
set_option maxHeartbeats 400000 in
theorem get_version (M : Nat) (f : Int) (w : World) (h0 : 0 ≤ f) (h1 : f < 256) (hc : w.cell? ⟨M, 0, none⟩ = some (.int .u8 f)) :
    Calls Try.prog 76 #[.pointer (some ⟨M, 0, none⟩)] w fun e w' => e = .returned (.int .i64 (f / 8 % 8)) ∧ w = w' := by
  have hm := u8_and7 (f / 8) (by omega) (by omega)
  go_enter Try.func76, Try.ntmps76
  go_wp2
  go_ret
  exact ⟨rfl, rfl⟩
set_option maxHeartbeats 400000 in
theorem get_leap (M : Nat) (f : Int) (w : World) (h0 : 0 ≤ f) (h1 : f < 256) (hc : w.cell? ⟨M, 0, none⟩ = some (.int .u8 f)) :
    Calls Try.prog 75 #[.pointer (some ⟨M, 0, none⟩)] w fun e w' => e = .returned (.int .u8 (f / 64 % 4)) ∧ w = w' := by
  have hm := u8_and3 (f / 64) (by omega) (by omega)
  go_enter Try.func75, Try.ntmps75
  go_wp2
  go_ret
  exact ⟨rfl, rfl⟩

/-- The message behind a pointer. -/
def msg (f stratum poll prec rd disp rid ref orig recv xmit : Int) : Array Value := #[.int .u8 f, .int .u8 stratum, .int .i8 poll, .int .i8 prec, .int .u32 rd, .int .u32 disp, .int .u32 rid, .int .u64 ref, .int .u64 orig, .int .u64 recv, .int .u64 xmit]

/-- What parseV4Response answers. -/
def Parsed (w0 : World) (f stratum poll prec rd disp rid ref orig recv xmit : Int) (e : Ending) (w : World) : Prop :=
  (if f % 8 = 4 ∧ xmit ≠ 0 ∧ recv ≤ xmit then ∃ M, e = .returned (.tuple #[.pointer (some ⟨M, 0, none⟩), .nilIface]) ∧ w.heap[M]? = some (.cells (msg f stratum poll prec rd disp rid ref orig recv xmit) 105 (0, 0)) ∧ w0.heap.size ≤ M
   else ∃ s, e = .returned (.tuple #[.pointer none, .iface 130 (.string s)])) ∧ Below w0.heap.size w0 w

theorem parsed_yes {w0 w : World} {M : Nat} {f stratum poll prec rd disp rid ref orig recv xmit : Int} (h1 : f % 8 = 4) (h2 : xmit ≠ 0) (h3 : recv ≤ xmit) (hM : w.heap[M]? = some (.cells (msg f stratum poll prec rd disp rid ref orig recv xmit) 105 (0, 0))) (hb : Below w0.heap.size w0 w) (hl : w0.heap.size ≤ M) :
    Parsed w0 f stratum poll prec rd disp rid ref orig recv xmit (.returned (.tuple #[.pointer (some ⟨M, 0, none⟩), .nilIface])) w := by
  unfold Parsed
  rw [if_pos ⟨h1, h2, h3⟩]
  exact ⟨⟨M, rfl, hM, hl⟩, hb⟩
theorem parsed_no {w0 w : World} {s : ByteArray} {f stratum poll prec rd disp rid ref orig recv xmit : Int} (h : ¬ (f % 8 = 4 ∧ xmit ≠ 0 ∧ recv ≤ xmit)) (hb : Below w0.heap.size w0 w) :
    Parsed w0 f stratum poll prec rd disp rid ref orig recv xmit (.returned (.tuple #[.pointer none, .iface 130 (.string s)])) w := by
  unfold Parsed
  rw [if_neg h]
  exact ⟨⟨s, rfl⟩, hb⟩

set_option maxHeartbeats 400000 in
set_option maxRecDepth 100000 in
theorem parse_short (A : Option Addr) (n c : Nat) (w : World) (hn : n < 48) :
    Calls Try.prog 74 #[.slice A n c] w fun e w' => (∃ s, e = .returned (.tuple #[.pointer none, .iface 130 (.string s)])) ∧ w = w' := by
  have hlt : (n : Int) < 48 := by omega
  go_enter Try.func74, Try.ntmps74
  go_wp2_with fail
  go_ret2
  exact ⟨⟨_, rfl⟩, rfl⟩

set_option maxHeartbeats 1600000 in
set_option maxRecDepth 100000 in
theorem parse_any (g n c : Nat) (f stratum poll prec rd disp rid ref orig recv xmit : Int) (w : World) (hn : 48 ≤ n) (hnc : n ≤ c) (hc : c ≤ 9223372036854775807) (hg : g < w.heap.size) (fits : Fits f stratum poll prec rd disp rid ref orig recv xmit) (hd : Hdr w g f stratum poll prec rd disp rid ref orig recv xmit) :
    Calls Try.prog 74 #[.slice (some ⟨g, 0, none⟩) n c] w (Parsed w f stratum poll prec rd disp rid ref orig recv xmit) := by
  have HD := Keep.mk hd
  clear hd
  have hnl : ¬ (n : Int) < 48 := by omega
  go_enter Try.func74, Try.ntmps74
  go_wp2_with (go_at_call 91; go_in)
  obtain ⟨N, hN⟩ : ∃ N, N = w.heap.size := ⟨_, rfl⟩
  generalize hW : World.alloc _ _ = Wv
  have HM : Keep (Wv.heap[N]? = some (.cells #[.int .u8 0, .int .u8 0, .int .i8 0, .int .i8 0, .int .u32 0, .int .u32 0, .int .u32 0, .int .u64 0, .int .u64 0, .int .u64 0, .int .u64 0] 105 (0, 0))) := by
    subst hN
    rw [← hW]
    exact ⟨(Below.heap_alloc _ _ _ (by simp)).trans (heap_alloc_new w _)⟩
  have HR : Keep (Wv.heap[N + 1]? = some (.cells #[.slice (some ⟨g, 0, none⟩) (n - 0) (c - 0)] 145 (0, 0))) := by
    subst hN
    rw [← hW]
    exact ⟨by simpa using heap_alloc_new (w.alloc _) _⟩
  have HB : Keep (Below N w Wv) := by
    subst hN
    rw [← hW]
    exact ⟨((Below.refl _ _).alloc (Nat.le_refl _) _).alloc (by simp) _⟩
  have HD1 : Keep (Hdr Wv g f stratum poll prec rd disp rid ref orig recv xmit) := by
    have e : Wv.heap[g]? = w.heap[g]? := HB.out.block g (by omega)
    exact ⟨HD.out.same e⟩
  have hgN : g < N := by omega
  rw [← hN]
  have HN : Keep (N = w.heap.size) := ⟨hN⟩
  clear hW hN HD hg
  have HF := Keep.mk fits
  clear fits
  -- field 0
  have m0 : Wv.cell? ⟨N, 0, none⟩ = some (.int .u8 0) := (cell_of_row Wv N 0 _ _ _ HM.out).trans rfl
  have m1 := frozen_of_row Wv N 0 _ _ HM.out
  refine (read_u8 N (N + 1) g 0 (n - 0) (c - 0) 0 f _ Wv HR.out m0 m1 (by omega) (by omega) (by omega) (by omega) HF.out.l0 HF.out.u0 HD1.out.1).mono ?_
  clear m0 m1
  rintro e w1 ⟨rfl, hw1⟩
  rw [show (Value.slice (some ⟨g, if c - 0 = 1 then 0 else 0 + 1, none⟩) (n - 0 - 1) (c - 0 - 1)) = .slice (some ⟨g, 1, none⟩) (n - 1) (c - 1) by rw [if_neg (by omega), Nat.sub_sub, Nat.sub_sub]] at hw1
  obtain ⟨hM1, hR1, hk1, hb1⟩ := two_sets hw1 (by omega) HM.out HR.out HB.out (Nat.le_refl _) (by omega)
  have HM1 : Keep (w1.heap[N]? = some (.cells #[.int .u8 f, .int .u8 0, .int .i8 0, .int .i8 0, .int .u32 0, .int .u32 0, .int .u32 0, .int .u64 0, .int .u64 0, .int .u64 0, .int .u64 0] 105 (0, 0))) := ⟨hM1⟩
  have HR1 := Keep.mk hR1
  have HB1 := Keep.mk hb1
  have HD2 : Keep (Hdr w1 g f stratum poll prec rd disp rid ref orig recv xmit) := ⟨HD1.out.same (hk1 g (by omega) (by omega))⟩
  clear HM HR HB HD1 hw1 hM1 hR1 hk1 hb1
  obtain ⟨HM, HR, HB, HD1⟩ := And.intro HM1 (And.intro HR1 (And.intro HB1 HD2))
  clear HM1 HR1 HB1 HD2 Wv
  obtain ⟨Wv, hWv⟩ : ∃ Wv, Wv = w1 := ⟨_, rfl⟩
  subst hWv
  go_wp2_with fail
  -- field 1
  have m0 : Wv.cell? ⟨N, 1, none⟩ = some (.int .u8 0) := (cell_of_row Wv N 1 _ _ _ HM.out).trans rfl
  have m1 := frozen_of_row Wv N 1 _ _ HM.out
  refine (read_u8 N (N + 1) g 1 (n - 1) (c - 1) 1 stratum _ Wv HR.out m0 m1 (by omega) (by omega) (by omega) (by omega) HF.out.l1 HF.out.u1 HD1.out.2.1).mono ?_
  clear m0 m1
  rintro e w1 ⟨rfl, hw1⟩
  rw [show (Value.slice (some ⟨g, if c - 1 = 1 then 1 else 1 + 1, none⟩) (n - 1 - 1) (c - 1 - 1)) = .slice (some ⟨g, 2, none⟩) (n - 2) (c - 2) by rw [if_neg (by omega), Nat.sub_sub, Nat.sub_sub]] at hw1
  obtain ⟨hM1, hR1, hk1, hb1⟩ := two_sets hw1 (by omega) HM.out HR.out HB.out (Nat.le_refl _) (by omega)
  have HM1 : Keep (w1.heap[N]? = some (.cells #[.int .u8 f, .int .u8 stratum, .int .i8 0, .int .i8 0, .int .u32 0, .int .u32 0, .int .u32 0, .int .u64 0, .int .u64 0, .int .u64 0, .int .u64 0] 105 (0, 0))) := ⟨hM1⟩
  have HR1 := Keep.mk hR1
  have HB1 := Keep.mk hb1
  have HD2 : Keep (Hdr w1 g f stratum poll prec rd disp rid ref orig recv xmit) := ⟨HD1.out.same (hk1 g (by omega) (by omega))⟩
  clear HM HR HB HD1 hw1 hM1 hR1 hk1 hb1
  obtain ⟨HM, HR, HB, HD1⟩ := And.intro HM1 (And.intro HR1 (And.intro HB1 HD2))
  clear HM1 HR1 HB1 HD2 Wv
  obtain ⟨Wv, hWv⟩ : ∃ Wv, Wv = w1 := ⟨_, rfl⟩
  subst hWv
  go_wp2_with fail
  -- field 2
  have m0 : Wv.cell? ⟨N, 2, none⟩ = some (.int .i8 0) := (cell_of_row Wv N 2 _ _ _ HM.out).trans rfl
  have m1 := frozen_of_row Wv N 2 _ _ HM.out
  refine (read_i8 N (N + 1) g 2 (n - 2) (c - 2) 2 poll _ Wv HR.out m0 m1 (by omega) (by omega) (by omega) (by omega) HF.out.l2 (Int.le_of_lt_add_one HF.out.u2) HD1.out.2.2.1).mono ?_
  clear m0 m1
  rintro e w1 ⟨rfl, hw1⟩
  rw [show (Value.slice (some ⟨g, if c - 2 = 1 then 2 else 2 + 1, none⟩) (n - 2 - 1) (c - 2 - 1)) = .slice (some ⟨g, 3, none⟩) (n - 3) (c - 3) by rw [if_neg (by omega), Nat.sub_sub, Nat.sub_sub]] at hw1
  obtain ⟨hM1, hR1, hk1, hb1⟩ := two_sets hw1 (by omega) HM.out HR.out HB.out (Nat.le_refl _) (by omega)
  have HM1 : Keep (w1.heap[N]? = some (.cells #[.int .u8 f, .int .u8 stratum, .int .i8 poll, .int .i8 0, .int .u32 0, .int .u32 0, .int .u32 0, .int .u64 0, .int .u64 0, .int .u64 0, .int .u64 0] 105 (0, 0))) := ⟨hM1⟩
  have HR1 := Keep.mk hR1
  have HB1 := Keep.mk hb1
  have HD2 : Keep (Hdr w1 g f stratum poll prec rd disp rid ref orig recv xmit) := ⟨HD1.out.same (hk1 g (by omega) (by omega))⟩
  clear HM HR HB HD1 hw1 hM1 hR1 hk1 hb1
  obtain ⟨HM, HR, HB, HD1⟩ := And.intro HM1 (And.intro HR1 (And.intro HB1 HD2))
  clear HM1 HR1 HB1 HD2 Wv
  obtain ⟨Wv, hWv⟩ : ∃ Wv, Wv = w1 := ⟨_, rfl⟩
  subst hWv
  go_wp2_with fail
  -- field 3
  have m0 : Wv.cell? ⟨N, 3, none⟩ = some (.int .i8 0) := (cell_of_row Wv N 3 _ _ _ HM.out).trans rfl
  have m1 := frozen_of_row Wv N 3 _ _ HM.out
  refine (read_i8 N (N + 1) g 3 (n - 3) (c - 3) 3 prec _ Wv HR.out m0 m1 (by omega) (by omega) (by omega) (by omega) HF.out.l3 (Int.le_of_lt_add_one HF.out.u3) HD1.out.2.2.2.1).mono ?_
  clear m0 m1
  rintro e w1 ⟨rfl, hw1⟩
  rw [show (Value.slice (some ⟨g, if c - 3 = 1 then 3 else 3 + 1, none⟩) (n - 3 - 1) (c - 3 - 1)) = .slice (some ⟨g, 4, none⟩) (n - 4) (c - 4) by rw [if_neg (by omega), Nat.sub_sub, Nat.sub_sub]] at hw1
  obtain ⟨hM1, hR1, hk1, hb1⟩ := two_sets hw1 (by omega) HM.out HR.out HB.out (Nat.le_refl _) (by omega)
  have HM1 : Keep (w1.heap[N]? = some (.cells #[.int .u8 f, .int .u8 stratum, .int .i8 poll, .int .i8 prec, .int .u32 0, .int .u32 0, .int .u32 0, .int .u64 0, .int .u64 0, .int .u64 0, .int .u64 0] 105 (0, 0))) := ⟨hM1⟩
  have HR1 := Keep.mk hR1
  have HB1 := Keep.mk hb1
  have HD2 : Keep (Hdr w1 g f stratum poll prec rd disp rid ref orig recv xmit) := ⟨HD1.out.same (hk1 g (by omega) (by omega))⟩
  clear HM HR HB HD1 hw1 hM1 hR1 hk1 hb1
  obtain ⟨HM, HR, HB, HD1⟩ := And.intro HM1 (And.intro HR1 (And.intro HB1 HD2))
  clear HM1 HR1 HB1 HD2 Wv
  obtain ⟨Wv, hWv⟩ : ∃ Wv, Wv = w1 := ⟨_, rfl⟩
  subst hWv
  go_wp2_with fail
  -- field 4
  have m0 : Wv.cell? ⟨N, 4, none⟩ = some (.int .u32 0) := (cell_of_row Wv N 4 _ _ _ HM.out).trans rfl
  have m1 := frozen_of_row Wv N 4 _ _ HM.out
  refine (read_short N (N + 1) g 4 (n - 4) (c - 4) 4 rd _ Wv HR.out m0 m1 (by omega) (by omega) (by omega) (by omega) HF.out.l4 HF.out.u4 HD1.out.2.2.2.2.1).mono ?_
  clear m0 m1
  rintro e w1 ⟨rfl, hw1⟩
  rw [show (Value.slice (some ⟨g, if c - 4 = 4 then 4 else 4 + 4, none⟩) (n - 4 - 4) (c - 4 - 4)) = .slice (some ⟨g, 8, none⟩) (n - 8) (c - 8) by rw [if_neg (by omega), Nat.sub_sub, Nat.sub_sub]] at hw1
  obtain ⟨hM1, hR1, hk1, hb1⟩ := two_sets hw1 (by omega) HM.out HR.out HB.out (Nat.le_refl _) (by omega)
  have HM1 : Keep (w1.heap[N]? = some (.cells #[.int .u8 f, .int .u8 stratum, .int .i8 poll, .int .i8 prec, .int .u32 rd, .int .u32 0, .int .u32 0, .int .u64 0, .int .u64 0, .int .u64 0, .int .u64 0] 105 (0, 0))) := ⟨hM1⟩
  have HR1 := Keep.mk hR1
  have HB1 := Keep.mk hb1
  have HD2 : Keep (Hdr w1 g f stratum poll prec rd disp rid ref orig recv xmit) := ⟨HD1.out.same (hk1 g (by omega) (by omega))⟩
  clear HM HR HB HD1 hw1 hM1 hR1 hk1 hb1
  obtain ⟨HM, HR, HB, HD1⟩ := And.intro HM1 (And.intro HR1 (And.intro HB1 HD2))
  clear HM1 HR1 HB1 HD2 Wv
  obtain ⟨Wv, hWv⟩ : ∃ Wv, Wv = w1 := ⟨_, rfl⟩
  subst hWv
  go_wp2_with fail
  -- field 5
  have m0 : Wv.cell? ⟨N, 5, none⟩ = some (.int .u32 0) := (cell_of_row Wv N 5 _ _ _ HM.out).trans rfl
  have m1 := frozen_of_row Wv N 5 _ _ HM.out
  refine (read_short N (N + 1) g 8 (n - 8) (c - 8) 5 disp _ Wv HR.out m0 m1 (by omega) (by omega) (by omega) (by omega) HF.out.l5 HF.out.u5 HD1.out.2.2.2.2.2.1).mono ?_
  clear m0 m1
  rintro e w1 ⟨rfl, hw1⟩
  rw [show (Value.slice (some ⟨g, if c - 8 = 4 then 8 else 8 + 4, none⟩) (n - 8 - 4) (c - 8 - 4)) = .slice (some ⟨g, 12, none⟩) (n - 12) (c - 12) by rw [if_neg (by omega), Nat.sub_sub, Nat.sub_sub]] at hw1
  obtain ⟨hM1, hR1, hk1, hb1⟩ := two_sets hw1 (by omega) HM.out HR.out HB.out (Nat.le_refl _) (by omega)
  have HM1 : Keep (w1.heap[N]? = some (.cells #[.int .u8 f, .int .u8 stratum, .int .i8 poll, .int .i8 prec, .int .u32 rd, .int .u32 disp, .int .u32 0, .int .u64 0, .int .u64 0, .int .u64 0, .int .u64 0] 105 (0, 0))) := ⟨hM1⟩
  have HR1 := Keep.mk hR1
  have HB1 := Keep.mk hb1
  have HD2 : Keep (Hdr w1 g f stratum poll prec rd disp rid ref orig recv xmit) := ⟨HD1.out.same (hk1 g (by omega) (by omega))⟩
  clear HM HR HB HD1 hw1 hM1 hR1 hk1 hb1
  obtain ⟨HM, HR, HB, HD1⟩ := And.intro HM1 (And.intro HR1 (And.intro HB1 HD2))
  clear HM1 HR1 HB1 HD2 Wv
  obtain ⟨Wv, hWv⟩ : ∃ Wv, Wv = w1 := ⟨_, rfl⟩
  subst hWv
  go_wp2_with fail
  -- field 6
  have m0 : Wv.cell? ⟨N, 6, none⟩ = some (.int .u32 0) := (cell_of_row Wv N 6 _ _ _ HM.out).trans rfl
  have m1 := frozen_of_row Wv N 6 _ _ HM.out
  refine (read_u32 N (N + 1) g 12 (n - 12) (c - 12) 6 rid _ Wv HR.out m0 m1 (by omega) (by omega) (by omega) (by omega) HF.out.l6 HF.out.u6 HD1.out.2.2.2.2.2.2.1).mono ?_
  clear m0 m1
  rintro e w1 ⟨rfl, hw1⟩
  rw [show (Value.slice (some ⟨g, if c - 12 = 4 then 12 else 12 + 4, none⟩) (n - 12 - 4) (c - 12 - 4)) = .slice (some ⟨g, 16, none⟩) (n - 16) (c - 16) by rw [if_neg (by omega), Nat.sub_sub, Nat.sub_sub]] at hw1
  obtain ⟨hM1, hR1, hk1, hb1⟩ := two_sets hw1 (by omega) HM.out HR.out HB.out (Nat.le_refl _) (by omega)
  have HM1 : Keep (w1.heap[N]? = some (.cells #[.int .u8 f, .int .u8 stratum, .int .i8 poll, .int .i8 prec, .int .u32 rd, .int .u32 disp, .int .u32 rid, .int .u64 0, .int .u64 0, .int .u64 0, .int .u64 0] 105 (0, 0))) := ⟨hM1⟩
  have HR1 := Keep.mk hR1
  have HB1 := Keep.mk hb1
  have HD2 : Keep (Hdr w1 g f stratum poll prec rd disp rid ref orig recv xmit) := ⟨HD1.out.same (hk1 g (by omega) (by omega))⟩
  clear HM HR HB HD1 hw1 hM1 hR1 hk1 hb1
  obtain ⟨HM, HR, HB, HD1⟩ := And.intro HM1 (And.intro HR1 (And.intro HB1 HD2))
  clear HM1 HR1 HB1 HD2 Wv
  obtain ⟨Wv, hWv⟩ : ∃ Wv, Wv = w1 := ⟨_, rfl⟩
  subst hWv
  go_wp2_with fail
  -- field 7
  have m0 : Wv.cell? ⟨N, 7, none⟩ = some (.int .u64 0) := (cell_of_row Wv N 7 _ _ _ HM.out).trans rfl
  have m1 := frozen_of_row Wv N 7 _ _ HM.out
  refine (read_stamp N (N + 1) g 16 (n - 16) (c - 16) 7 ref _ Wv HR.out m0 m1 (by omega) (by omega) (by omega) (by omega) HF.out.l7 HF.out.u7 HD1.out.2.2.2.2.2.2.2.1).mono ?_
  clear m0 m1
  rintro e w1 ⟨rfl, hw1⟩
  rw [show (Value.slice (some ⟨g, if c - 16 = 8 then 16 else 16 + 8, none⟩) (n - 16 - 8) (c - 16 - 8)) = .slice (some ⟨g, 24, none⟩) (n - 24) (c - 24) by rw [if_neg (by omega), Nat.sub_sub, Nat.sub_sub]] at hw1
  obtain ⟨hM1, hR1, hk1, hb1⟩ := two_sets hw1 (by omega) HM.out HR.out HB.out (Nat.le_refl _) (by omega)
  have HM1 : Keep (w1.heap[N]? = some (.cells #[.int .u8 f, .int .u8 stratum, .int .i8 poll, .int .i8 prec, .int .u32 rd, .int .u32 disp, .int .u32 rid, .int .u64 ref, .int .u64 0, .int .u64 0, .int .u64 0] 105 (0, 0))) := ⟨hM1⟩
  have HR1 := Keep.mk hR1
  have HB1 := Keep.mk hb1
  have HD2 : Keep (Hdr w1 g f stratum poll prec rd disp rid ref orig recv xmit) := ⟨HD1.out.same (hk1 g (by omega) (by omega))⟩
  clear HM HR HB HD1 hw1 hM1 hR1 hk1 hb1
  obtain ⟨HM, HR, HB, HD1⟩ := And.intro HM1 (And.intro HR1 (And.intro HB1 HD2))
  clear HM1 HR1 HB1 HD2 Wv
  obtain ⟨Wv, hWv⟩ : ∃ Wv, Wv = w1 := ⟨_, rfl⟩
  subst hWv
  go_wp2_with fail
  -- field 8
  have m0 : Wv.cell? ⟨N, 8, none⟩ = some (.int .u64 0) := (cell_of_row Wv N 8 _ _ _ HM.out).trans rfl
  have m1 := frozen_of_row Wv N 8 _ _ HM.out
  refine (read_stamp N (N + 1) g 24 (n - 24) (c - 24) 8 orig _ Wv HR.out m0 m1 (by omega) (by omega) (by omega) (by omega) HF.out.l8 HF.out.u8 HD1.out.2.2.2.2.2.2.2.2.1).mono ?_
  clear m0 m1
  rintro e w1 ⟨rfl, hw1⟩
  rw [show (Value.slice (some ⟨g, if c - 24 = 8 then 24 else 24 + 8, none⟩) (n - 24 - 8) (c - 24 - 8)) = .slice (some ⟨g, 32, none⟩) (n - 32) (c - 32) by rw [if_neg (by omega), Nat.sub_sub, Nat.sub_sub]] at hw1
  obtain ⟨hM1, hR1, hk1, hb1⟩ := two_sets hw1 (by omega) HM.out HR.out HB.out (Nat.le_refl _) (by omega)
  have HM1 : Keep (w1.heap[N]? = some (.cells #[.int .u8 f, .int .u8 stratum, .int .i8 poll, .int .i8 prec, .int .u32 rd, .int .u32 disp, .int .u32 rid, .int .u64 ref, .int .u64 orig, .int .u64 0, .int .u64 0] 105 (0, 0))) := ⟨hM1⟩
  have HR1 := Keep.mk hR1
  have HB1 := Keep.mk hb1
  have HD2 : Keep (Hdr w1 g f stratum poll prec rd disp rid ref orig recv xmit) := ⟨HD1.out.same (hk1 g (by omega) (by omega))⟩
  clear HM HR HB HD1 hw1 hM1 hR1 hk1 hb1
  obtain ⟨HM, HR, HB, HD1⟩ := And.intro HM1 (And.intro HR1 (And.intro HB1 HD2))
  clear HM1 HR1 HB1 HD2 Wv
  obtain ⟨Wv, hWv⟩ : ∃ Wv, Wv = w1 := ⟨_, rfl⟩
  subst hWv
  go_wp2_with fail
  -- field 9
  have m0 : Wv.cell? ⟨N, 9, none⟩ = some (.int .u64 0) := (cell_of_row Wv N 9 _ _ _ HM.out).trans rfl
  have m1 := frozen_of_row Wv N 9 _ _ HM.out
  refine (read_stamp N (N + 1) g 32 (n - 32) (c - 32) 9 recv _ Wv HR.out m0 m1 (by omega) (by omega) (by omega) (by omega) HF.out.l9 HF.out.u9 HD1.out.2.2.2.2.2.2.2.2.2.1).mono ?_
  clear m0 m1
  rintro e w1 ⟨rfl, hw1⟩
  rw [show (Value.slice (some ⟨g, if c - 32 = 8 then 32 else 32 + 8, none⟩) (n - 32 - 8) (c - 32 - 8)) = .slice (some ⟨g, 40, none⟩) (n - 40) (c - 40) by rw [if_neg (by omega), Nat.sub_sub, Nat.sub_sub]] at hw1
  obtain ⟨hM1, hR1, hk1, hb1⟩ := two_sets hw1 (by omega) HM.out HR.out HB.out (Nat.le_refl _) (by omega)
  have HM1 : Keep (w1.heap[N]? = some (.cells #[.int .u8 f, .int .u8 stratum, .int .i8 poll, .int .i8 prec, .int .u32 rd, .int .u32 disp, .int .u32 rid, .int .u64 ref, .int .u64 orig, .int .u64 recv, .int .u64 0] 105 (0, 0))) := ⟨hM1⟩
  have HR1 := Keep.mk hR1
  have HB1 := Keep.mk hb1
  have HD2 : Keep (Hdr w1 g f stratum poll prec rd disp rid ref orig recv xmit) := ⟨HD1.out.same (hk1 g (by omega) (by omega))⟩
  clear HM HR HB HD1 hw1 hM1 hR1 hk1 hb1
  obtain ⟨HM, HR, HB, HD1⟩ := And.intro HM1 (And.intro HR1 (And.intro HB1 HD2))
  clear HM1 HR1 HB1 HD2 Wv
  obtain ⟨Wv, hWv⟩ : ∃ Wv, Wv = w1 := ⟨_, rfl⟩
  subst hWv
  go_wp2_with fail
  -- field 10
  have m0 : Wv.cell? ⟨N, 10, none⟩ = some (.int .u64 0) := (cell_of_row Wv N 10 _ _ _ HM.out).trans rfl
  have m1 := frozen_of_row Wv N 10 _ _ HM.out
  refine (read_stamp N (N + 1) g 40 (n - 40) (c - 40) 10 xmit _ Wv HR.out m0 m1 (by omega) (by omega) (by omega) (by omega) HF.out.l10 HF.out.u10 HD1.out.2.2.2.2.2.2.2.2.2.2).mono ?_
  clear m0 m1
  rintro e w1 ⟨rfl, hw1⟩
  obtain ⟨hM1, hR1, hk1, hb1⟩ := two_sets hw1 (by omega) HM.out HR.out HB.out (Nat.le_refl _) (by omega)
  have HM1 : Keep (w1.heap[N]? = some (.cells #[.int .u8 f, .int .u8 stratum, .int .i8 poll, .int .i8 prec, .int .u32 rd, .int .u32 disp, .int .u32 rid, .int .u64 ref, .int .u64 orig, .int .u64 recv, .int .u64 xmit] 105 (0, 0))) := ⟨hM1⟩
  have HR1 := Keep.mk hR1
  have HB1 := Keep.mk hb1
  have HD2 : Keep (Hdr w1 g f stratum poll prec rd disp rid ref orig recv xmit) := ⟨HD1.out.same (hk1 g (by omega) (by omega))⟩
  clear HM HR HB HD1 hw1 hM1 hR1 hk1 hb1
  obtain ⟨HM, HR, HB, HD1⟩ := And.intro HM1 (And.intro HR1 (And.intro HB1 HD2))
  clear HM1 HR1 HB1 HD2 Wv
  obtain ⟨Wv, hWv⟩ : ∃ Wv, Wv = w1 := ⟨_, rfl⟩
  subst hWv
  go_wp2_with fail
  have m0 : Wv.cell? ⟨N, 0, none⟩ = some (.int .u8 f) := (cell_of_row Wv N 0 _ _ _ HM.out).trans rfl
  have m9 : Wv.cell? ⟨N, 9, none⟩ = some (.int .u64 recv) := (cell_of_row Wv N 9 _ _ _ HM.out).trans rfl
  have m10 : Wv.cell? ⟨N, 10, none⟩ = some (.int .u64 xmit) := (cell_of_row Wv N 10 _ _ _ HM.out).trans rfl
  refine (get_mode N f Wv HF.out.l0 HF.out.u0 m0).mono ?_
  rintro e w1 ⟨rfl, rfl⟩
  have HB2 : Keep (Below w.heap.size w Wv) := ⟨HN.out ▸ HB.out⟩
  clear HB HR HD1 m0
  by_cases h4 : f % 8 = 4
  · by_cases hx : xmit = 0
    · have hx0 : (xmit == 0) = true := by simp [hx]
      have H4 := Keep.mk h4
      have HX := Keep.mk hx
      clear hx
      go_wp2_with fail
      go_ret2
      exact parsed_no (fun h => h.2.1 HX.out) HB2.out
    · have hx0 : (xmit == 0) = false := by simp [hx]
      have H4 := Keep.mk h4
      have HX := Keep.mk hx
      clear hx
      by_cases hr : xmit < recv
      · go_wp2_with fail
        go_quiet (fail)
        go_wp2_with fail
        go_ret2
        exact parsed_no (fun h => absurd h.2.2 (by omega)) (below_drewN HB2.out _)
      · go_wp2_with fail
        go_quiet (fail)
        go_wp2_with fail
        go_ret2
        exact parsed_yes H4.out HX.out (by omega) HM.out (below_drewN HB2.out _) (by rw [HN.out]; exact Nat.le_refl _)
  · have H4 := Keep.mk h4
    have h40 : (f % 8 == 4) = false := by simp [h4]
    have h41 : (f % 8 != 4) = true := by simp [h4]
    go_wp2_with fail
    go_ret2
    exact parsed_no (fun h => H4.out h.1) HB2.out

end Go.Proofs.Ytaanpoankljblaa.RdC
