/- readBE at each kind of a header's field. -/
import Derived.Test.YtaanpoankljblaaRdA
namespace Go.Proofs.Ytaanpoankljblaa.RdB
open Go.RowKit Go.Proofs.Ytaanpoankljblaa.RdA
set_option linter.unusedVariables false
set_option linter.unusedSimpArgs false

theorem ta_133_133 (x : Value) (w : World) : (Instr.typeAssert (.iface 133 x) 20 133 true).run Try.prog w = .ok (.tuple #[x, .bool true]) w := by kernel_rfl
theorem ta_134_133 (x : Value) (w : World) : (Instr.typeAssert (.iface 134 x) 20 133 true).run Try.prog w = .ok (.tuple #[.pointer none, .bool false]) w := by kernel_rfl
theorem ta_134_134 (x : Value) (w : World) : (Instr.typeAssert (.iface 134 x) 20 134 true).run Try.prog w = .ok (.tuple #[x, .bool true]) w := by kernel_rfl
theorem ta_135_133 (x : Value) (w : World) : (Instr.typeAssert (.iface 135 x) 20 133 true).run Try.prog w = .ok (.tuple #[.pointer none, .bool false]) w := by kernel_rfl
theorem ta_135_134 (x : Value) (w : World) : (Instr.typeAssert (.iface 135 x) 20 134 true).run Try.prog w = .ok (.tuple #[.pointer none, .bool false]) w := by kernel_rfl
theorem ta_135_135 (x : Value) (w : World) : (Instr.typeAssert (.iface 135 x) 20 135 true).run Try.prog w = .ok (.tuple #[x, .bool true]) w := by kernel_rfl
theorem ta_136_133 (x : Value) (w : World) : (Instr.typeAssert (.iface 136 x) 20 133 true).run Try.prog w = .ok (.tuple #[.pointer none, .bool false]) w := by kernel_rfl
theorem ta_136_134 (x : Value) (w : World) : (Instr.typeAssert (.iface 136 x) 20 134 true).run Try.prog w = .ok (.tuple #[.pointer none, .bool false]) w := by kernel_rfl
theorem ta_136_135 (x : Value) (w : World) : (Instr.typeAssert (.iface 136 x) 20 135 true).run Try.prog w = .ok (.tuple #[.pointer none, .bool false]) w := by kernel_rfl
theorem ta_136_136 (x : Value) (w : World) : (Instr.typeAssert (.iface 136 x) 20 136 true).run Try.prog w = .ok (.tuple #[x, .bool true]) w := by kernel_rfl
theorem ta_137_133 (x : Value) (w : World) : (Instr.typeAssert (.iface 137 x) 20 133 true).run Try.prog w = .ok (.tuple #[.pointer none, .bool false]) w := by kernel_rfl
theorem ta_137_134 (x : Value) (w : World) : (Instr.typeAssert (.iface 137 x) 20 134 true).run Try.prog w = .ok (.tuple #[.pointer none, .bool false]) w := by kernel_rfl
theorem ta_137_135 (x : Value) (w : World) : (Instr.typeAssert (.iface 137 x) 20 135 true).run Try.prog w = .ok (.tuple #[.pointer none, .bool false]) w := by kernel_rfl
theorem ta_137_136 (x : Value) (w : World) : (Instr.typeAssert (.iface 137 x) 20 136 true).run Try.prog w = .ok (.tuple #[.pointer none, .bool false]) w := by kernel_rfl
theorem ta_137_137 (x : Value) (w : World) : (Instr.typeAssert (.iface 137 x) 20 137 true).run Try.prog w = .ok (.tuple #[x, .bool true]) w := by kernel_rfl

theorem cell_far {w : World} {R M f : Nat} {u v : Value} (hne : M ≠ R) (h : w.cell? ⟨M, f, none⟩ = some v) : (w.setCell ⟨R, 0, none⟩ u).cell? ⟨M, f, none⟩ = some v := by
  rw [← h]
  simp only [World.cell?, World.setCell, Array.getElem?_modify]
  rw [if_neg (fun e => hne e.symm)]
theorem frozen_far {w : World} {R M f : Nat} {u : Value} (hne : M ≠ R) (h : w.frozen? ⟨M, f, none⟩ = false) : (w.setCell ⟨R, 0, none⟩ u).frozen? ⟨M, f, none⟩ = false := by
  rw [← h]
  simp only [World.frozen?, World.setCell, Array.getElem?_modify]
  rw [if_neg (fun e => hne e.symm)]

theorem i8_back (p : Int) (h0 : -128 ≤ p) (h1 : p ≤ 127) : IntKind.i8.wrap (p % 256) = p := by
  simp [IntKind.wrap, IntKind.bits, IntKind.signed]
  omega

set_option maxHeartbeats 400000 in
set_option maxRecDepth 100000 in
theorem read_u8 (M R g off n c f : Nat) (x : Int) (old : Value) (w : World) (hR : w.heap[R]? = some (.cells #[.slice (some ⟨g, off, none⟩) n c] 145 (0, 0))) (hM : w.cell? ⟨M, f, none⟩ = some old) (fM : w.frozen? ⟨M, f, none⟩ = false) (hne : M ≠ R)
    (hkn : 1 ≤ n) (hnc : n ≤ c) (hc : c ≤ 9223372036854775807) (hx : 0 ≤ x) (hl : x < 256) (hb : Bytes w g off 1 x) :
    Calls Try.prog 92 #[.pointer (some ⟨R, 0, none⟩), .iface 133 (.pointer (some ⟨M, f, none⟩))] w fun e w' => e = .returned (.tuple #[]) ∧
      w' = (w.setCell ⟨R, 0, none⟩ (.slice (some ⟨g, if c = 1 then off else off + 1, none⟩) (n - 1) (c - 1))).setCell ⟨M, f, none⟩ (.int .u8 x) := by
  have HT := Keep.mk (take_any R g off n c 1 x w hR (by omega) hkn hnc hc (by omega) (by omega) hb)
  generalize (Value.slice (some { block := g, off := if c = 1 then off else off + 1 }) (n - 1) (c - 1)) = s at HT ⊢
  have d0 := cell_far (u := s) hne hM
  have d1 := frozen_far (u := s) hne fM
  have t0 := ta_133_133
  clear hR hb hM fM
  go_enter Try.func92, Try.ntmps92
  go_wp2_with fail
  refine HT.out.mono ?_
  rintro e w1 ⟨rfl, rfl⟩
  go_wp2_with fail
  go_end0
  exact ⟨rfl, rfl⟩

set_option maxHeartbeats 400000 in
set_option maxRecDepth 100000 in
theorem read_i8 (M R g off n c f : Nat) (p : Int) (old : Value) (w : World) (hR : w.heap[R]? = some (.cells #[.slice (some ⟨g, off, none⟩) n c] 145 (0, 0))) (hM : w.cell? ⟨M, f, none⟩ = some old) (fM : w.frozen? ⟨M, f, none⟩ = false) (hne : M ≠ R)
    (hkn : 1 ≤ n) (hnc : n ≤ c) (hc : c ≤ 9223372036854775807) (hx : -128 ≤ p) (hl : p ≤ 127) (hb : Bytes w g off 1 (p % 256)) :
    Calls Try.prog 92 #[.pointer (some ⟨R, 0, none⟩), .iface 134 (.pointer (some ⟨M, f, none⟩))] w fun e w' => e = .returned (.tuple #[]) ∧
      w' = (w.setCell ⟨R, 0, none⟩ (.slice (some ⟨g, if c = 1 then off else off + 1, none⟩) (n - 1) (c - 1))).setCell ⟨M, f, none⟩ (.int .i8 p) := by
  have HT := Keep.mk (take_any R g off n c 1 (p % 256) w hR (by omega) hkn hnc hc (by omega) (by omega) hb)
  generalize (Value.slice (some { block := g, off := if c = 1 then off else off + 1 }) (n - 1) (c - 1)) = s at HT ⊢
  have d0 := cell_far (u := s) hne hM
  have d1 := frozen_far (u := s) hne fM
  have t0 := ta_134_133
  have t1 := ta_134_134
  have hi8 := i8_back p hx hl
  clear hR hb hM fM
  go_enter Try.func92, Try.ntmps92
  go_wp2_with fail
  refine HT.out.mono ?_
  rintro e w1 ⟨rfl, rfl⟩
  go_wp2_with fail
  go_end0
  exact ⟨rfl, rfl⟩

set_option maxHeartbeats 400000 in
set_option maxRecDepth 100000 in
theorem read_short (M R g off n c f : Nat) (x : Int) (old : Value) (w : World) (hR : w.heap[R]? = some (.cells #[.slice (some ⟨g, off, none⟩) n c] 145 (0, 0))) (hM : w.cell? ⟨M, f, none⟩ = some old) (fM : w.frozen? ⟨M, f, none⟩ = false) (hne : M ≠ R)
    (hkn : 4 ≤ n) (hnc : n ≤ c) (hc : c ≤ 9223372036854775807) (hx : 0 ≤ x) (hl : x < 4294967296) (hb : Bytes w g off 4 x) :
    Calls Try.prog 92 #[.pointer (some ⟨R, 0, none⟩), .iface 135 (.pointer (some ⟨M, f, none⟩))] w fun e w' => e = .returned (.tuple #[]) ∧
      w' = (w.setCell ⟨R, 0, none⟩ (.slice (some ⟨g, if c = 4 then off else off + 4, none⟩) (n - 4) (c - 4))).setCell ⟨M, f, none⟩ (.int .u32 x) := by
  have HT := Keep.mk (take_any R g off n c 4 x w hR (by omega) hkn hnc hc (by omega) (by omega) hb)
  generalize (Value.slice (some { block := g, off := if c = 4 then off else off + 4 }) (n - 4) (c - 4)) = s at HT ⊢
  have d0 := cell_far (u := s) hne hM
  have d1 := frozen_far (u := s) hne fM
  have t0 := ta_135_133
  have t1 := ta_135_134
  have t2 := ta_135_135
  clear hR hb hM fM
  go_enter Try.func92, Try.ntmps92
  go_wp2_with fail
  refine HT.out.mono ?_
  rintro e w1 ⟨rfl, rfl⟩
  go_wp2_with fail
  go_end0
  exact ⟨rfl, rfl⟩

set_option maxHeartbeats 400000 in
set_option maxRecDepth 100000 in
theorem read_u32 (M R g off n c f : Nat) (x : Int) (old : Value) (w : World) (hR : w.heap[R]? = some (.cells #[.slice (some ⟨g, off, none⟩) n c] 145 (0, 0))) (hM : w.cell? ⟨M, f, none⟩ = some old) (fM : w.frozen? ⟨M, f, none⟩ = false) (hne : M ≠ R)
    (hkn : 4 ≤ n) (hnc : n ≤ c) (hc : c ≤ 9223372036854775807) (hx : 0 ≤ x) (hl : x < 4294967296) (hb : Bytes w g off 4 x) :
    Calls Try.prog 92 #[.pointer (some ⟨R, 0, none⟩), .iface 136 (.pointer (some ⟨M, f, none⟩))] w fun e w' => e = .returned (.tuple #[]) ∧
      w' = (w.setCell ⟨R, 0, none⟩ (.slice (some ⟨g, if c = 4 then off else off + 4, none⟩) (n - 4) (c - 4))).setCell ⟨M, f, none⟩ (.int .u32 x) := by
  have HT := Keep.mk (take_any R g off n c 4 x w hR (by omega) hkn hnc hc (by omega) (by omega) hb)
  generalize (Value.slice (some { block := g, off := if c = 4 then off else off + 4 }) (n - 4) (c - 4)) = s at HT ⊢
  have d0 := cell_far (u := s) hne hM
  have d1 := frozen_far (u := s) hne fM
  have t0 := ta_136_133
  have t1 := ta_136_134
  have t2 := ta_136_135
  have t3 := ta_136_136
  clear hR hb hM fM
  go_enter Try.func92, Try.ntmps92
  go_wp2_with fail
  refine HT.out.mono ?_
  rintro e w1 ⟨rfl, rfl⟩
  go_wp2_with fail
  go_end0
  exact ⟨rfl, rfl⟩

set_option maxHeartbeats 400000 in
set_option maxRecDepth 100000 in
theorem read_stamp (M R g off n c f : Nat) (x : Int) (old : Value) (w : World) (hR : w.heap[R]? = some (.cells #[.slice (some ⟨g, off, none⟩) n c] 145 (0, 0))) (hM : w.cell? ⟨M, f, none⟩ = some old) (fM : w.frozen? ⟨M, f, none⟩ = false) (hne : M ≠ R)
    (hkn : 8 ≤ n) (hnc : n ≤ c) (hc : c ≤ 9223372036854775807) (hx : 0 ≤ x) (hl : x < 18446744073709551616) (hb : Bytes w g off 8 x) :
    Calls Try.prog 92 #[.pointer (some ⟨R, 0, none⟩), .iface 137 (.pointer (some ⟨M, f, none⟩))] w fun e w' => e = .returned (.tuple #[]) ∧
      w' = (w.setCell ⟨R, 0, none⟩ (.slice (some ⟨g, if c = 8 then off else off + 8, none⟩) (n - 8) (c - 8))).setCell ⟨M, f, none⟩ (.int .u64 x) := by
  have HT := Keep.mk (take_any R g off n c 8 x w hR (by omega) hkn hnc hc (by omega) (by omega) hb)
  generalize (Value.slice (some { block := g, off := if c = 8 then off else off + 8 }) (n - 8) (c - 8)) = s at HT ⊢
  have d0 := cell_far (u := s) hne hM
  have d1 := frozen_far (u := s) hne fM
  have t0 := ta_137_133
  have t1 := ta_137_134
  have t2 := ta_137_135
  have t3 := ta_137_136
  have t4 := ta_137_137
  clear hR hb hM fM
  go_enter Try.func92, Try.ntmps92
  go_wp2_with fail
  refine HT.out.mono ?_
  rintro e w1 ⟨rfl, rfl⟩
  go_wp2_with fail
  go_end0
  exact ⟨rfl, rfl⟩

end Go.Proofs.Ytaanpoankljblaa.RdB
