/- offset and rtt of four times. -/
import Derived.Test.YtaanpoankljblaaTmB
import Derived.Deep.RegionHeld3
namespace Go.Proofs.Ytaanpoankljblaa.TmH
open Go.RowKit Go.Proofs.Ytaanpoankljblaa.RdA Go.Proofs.Ytaanpoankljblaa.FmtA Go.Proofs.Ytaanpoankljblaa.FmtB Go.Proofs.Ytaanpoankljblaa.RdF Go.Proofs.Ytaanpoankljblaa.RdD Go.Proofs.Ytaanpoankljblaa.TmA Go.Proofs.Ytaanpoankljblaa.TmB
set_option linter.unusedVariables false
set_option linter.unusedSimpArgs false

theorem cell_lies {w : World} {p : Addr} {v : Value} (h : w.cell? p = some v) : p.block < w.heap.size := by
  refine Classical.byContradiction fun hn => ?_
  have e : w.heap[p.block]? = none := Array.getElem?_eq_none (by omega)
  unfold World.cell? at h
  rw [e] at h
  cases h
theorem keep_cell {W w' : World} {p : Addr} {v : Value} (hb : Below W.heap.size W w') (h : W.cell? p = some v) : w'.cell? p = some v := (hb.cell (cell_lies h)).trans h
theorem undrew {W W' : World} (h : Below W.drew.heap.size W.drew W') : Below W.heap.size W W' := ⟨h.os, h.tape, h.output, h.size, h.block⟩
theorem half_in (z : Int) : z.tdiv 2 * 2 + z.tmod 2 = z ∧ -2 < z.tmod 2 ∧ z.tmod 2 < 2 := by
  have h1 := Int.tmod_add_mul_tdiv z 2
  have h2 := Int.tmod_lt_of_pos z (show (0 : Int) < 2 by decide)
  have h3 := Int.lt_tmod_of_pos z (show (0 : Int) < 2 by decide)
  omega
/-- Four blocks, made one behind another. -/
theorem four (w : World) (o1 o2 o3 o4 : Obj) : ∃ W a b c d, W = (((w.alloc o1).alloc o2).alloc o3).alloc o4 ∧ a = w.heap.size ∧ b = w.heap.size + 1 ∧ c = w.heap.size + 1 + 1 ∧ d = w.heap.size + 1 + 1 + 1 ∧ W.heap[a]? = some o1 ∧ W.heap[b]? = some o2 ∧ W.heap[c]? = some o3 ∧ W.heap[d]? = some o4 ∧ Below w.heap.size w W :=
  ⟨_, _, _, _, _, rfl, rfl, rfl, rfl, rfl, alloc_old (alloc_old (alloc_old (alloc_at rfl))), alloc_old (alloc_old (alloc_at (by simp))), alloc_old (alloc_at (by simp)), alloc_at (by simp), alc (alc (alc (alc (Below.refl _ _) _) _) _) _⟩
theorem keep12 {W w' : World} {p0 p1 p2 p3 p4 p5 p6 p7 p8 p9 p10 p11 : Addr} {v0 v1 v2 v3 v4 v5 v6 v7 v8 v9 v10 v11 : Value} (hb : Below W.heap.size W w') (h : W.cell? p0 = some v0 ∧ W.cell? p1 = some v1 ∧ W.cell? p2 = some v2 ∧ W.cell? p3 = some v3 ∧ W.cell? p4 = some v4 ∧ W.cell? p5 = some v5 ∧ W.cell? p6 = some v6 ∧ W.cell? p7 = some v7 ∧ W.cell? p8 = some v8 ∧ W.cell? p9 = some v9 ∧ W.cell? p10 = some v10 ∧ W.cell? p11 = some v11) : w'.cell? p0 = some v0 ∧ w'.cell? p1 = some v1 ∧ w'.cell? p2 = some v2 ∧ w'.cell? p3 = some v3 ∧ w'.cell? p4 = some v4 ∧ w'.cell? p5 = some v5 ∧ w'.cell? p6 = some v6 ∧ w'.cell? p7 = some v7 ∧ w'.cell? p8 = some v8 ∧ w'.cell? p9 = some v9 ∧ w'.cell? p10 = some v10 ∧ w'.cell? p11 = some v11 := ⟨keep_cell hb (h.1), keep_cell hb (h.2.1), keep_cell hb (h.2.2.1), keep_cell hb (h.2.2.2.1), keep_cell hb (h.2.2.2.2.1), keep_cell hb (h.2.2.2.2.2.1), keep_cell hb (h.2.2.2.2.2.2.1), keep_cell hb (h.2.2.2.2.2.2.2.1), keep_cell hb (h.2.2.2.2.2.2.2.2.1), keep_cell hb (h.2.2.2.2.2.2.2.2.2.1), keep_cell hb (h.2.2.2.2.2.2.2.2.2.2.1), keep_cell hb (h.2.2.2.2.2.2.2.2.2.2.2)⟩

set_option maxHeartbeats 800000 in
set_option maxRecDepth 100000 in
theorem offset_any (n1 s1 n2 s2 n3 s3 n4 s4 x y : Int) (w : World) (HX : ∀ W, Calls Try.prog 93 #[.agg (tm n2 s2), .agg (tm n1 s1)] W fun e w' => e = .returned (.int .i64 x) ∧ Below W.heap.size W w')
    (HY : ∀ W, Calls Try.prog 93 #[.agg (tm n3 s3), .agg (tm n4 s4)] W fun e w' => e = .returned (.int .i64 y) ∧ Below W.heap.size W w')
    (x0 : -4611686018427387904 ≤ x) (x1 : x < 4611686018427387904) (y0 : -4611686018427387904 ≤ y) (y1 : y < 4611686018427387904) :
    Calls Try.prog 78 #[.agg (tm n1 s1), .agg (tm n2 s2), .agg (tm n3 s3), .agg (tm n4 s4)] w fun e w' => e = .returned (.int .i64 ((x + y).tdiv 2)) ∧ Below w.heap.size w w' := by
  unfold tm at HX HY ⊢
  have es : IntKind.i64.wrap (x + y) = x + y := by rw [IntKind.wrap_i64]; omega
  have et : IntKind.i64.wrap ((x + y).tdiv 2) = (x + y).tdiv 2 := by rw [IntKind.wrap_i64]; have := half_in (x + y); omega
  go_enter Try.func78, Try.ntmps78
  go_wp2_with fail
  obtain ⟨W0, b1, b2, b3, b4, eW, e1, e2, e3, e4, K1, K2, K3, K4, HB⟩ := four w (.cells #[.int .u64 n1, .int .i64 s1, .pointer none] 92) (.cells #[.int .u64 n2, .int .i64 s2, .pointer none] 92) (.cells #[.int .u64 n3, .int .i64 s3, .pointer none] 92) (.cells #[.int .u64 n4, .int .i64 s4, .pointer none] 92)
  rw [← eW, ← e4, ← e3, ← e2, ← e1]
  clear eW e1 e2 e3 e4
  obtain ⟨c10, c11, c12⟩ := tm_cells K1
  obtain ⟨c20, c21, c22⟩ := tm_cells K2
  obtain ⟨c30, c31, c32⟩ := tm_cells K3
  obtain ⟨c40, c41, c42⟩ := tm_cells K4
  clear K1 K2 K3 K4
  have HB0 := Keep.mk HB
  clear HB
  go_region_held3 (fun w' => w'.cell? ⟨b1, 0, none⟩ = some (.int .u64 n1) ∧ w'.cell? ⟨b1, 1, none⟩ = some (.int .i64 s1) ∧ w'.cell? ⟨b1, 2, none⟩ = some (.pointer none) ∧ w'.cell? ⟨b2, 0, none⟩ = some (.int .u64 n2) ∧ w'.cell? ⟨b2, 1, none⟩ = some (.int .i64 s2) ∧ w'.cell? ⟨b2, 2, none⟩ = some (.pointer none) ∧ w'.cell? ⟨b3, 0, none⟩ = some (.int .u64 n3) ∧ w'.cell? ⟨b3, 1, none⟩ = some (.int .i64 s3) ∧ w'.cell? ⟨b3, 2, none⟩ = some (.pointer none) ∧ w'.cell? ⟨b4, 0, none⟩ = some (.int .u64 n4) ∧ w'.cell? ⟨b4, 1, none⟩ = some (.int .i64 s4) ∧ w'.cell? ⟨b4, 2, none⟩ = some (.pointer none)) ((first | assumption | exact ⟨c10, c11, c12, c20, c21, c22, c30, c31, c32, c40, c41, c42⟩ | exact keep12 hb ⟨c10, c11, c12, c20, c21, c22, c30, c31, c32, c40, c41, c42⟩ | exact keep12 hb (by assumption)))
    (first | (go_at_call 93; first | (with_reducible refine (HX _).mono ?_; rintro e w2 ⟨rfl, hb⟩) | (with_reducible refine (HY _).mono ?_; rintro e w2 ⟨rfl, hb⟩)))
  all_goals
    go_ways
    go_wp2_with fail
    all_goals
      go_ret
      refine ⟨rfl, nxt (nxt HB0.out (undrew ?_)) hb⟩ <;> assumption

set_option maxHeartbeats 800000 in
set_option maxRecDepth 100000 in
theorem rtt_any (n1 s1 n2 s2 n3 s3 n4 s4 x y : Int) (w : World) (HX : ∀ W, Calls Try.prog 93 #[.agg (tm n4 s4), .agg (tm n1 s1)] W fun e w' => e = .returned (.int .i64 x) ∧ Below W.heap.size W w')
    (HY : ∀ W, Calls Try.prog 93 #[.agg (tm n3 s3), .agg (tm n2 s2)] W fun e w' => e = .returned (.int .i64 y) ∧ Below W.heap.size W w')
    (x0 : -4611686018427387904 ≤ x) (x1 : x < 4611686018427387904) (y0 : -4611686018427387904 ≤ y) (y1 : y < 4611686018427387904) :
    Calls Try.prog 81 #[.agg (tm n1 s1), .agg (tm n2 s2), .agg (tm n3 s3), .agg (tm n4 s4)] w fun e w' => e = .returned (.int .i64 (max (x - y) 0)) ∧ Below w.heap.size w w' := by
  unfold tm at HX HY ⊢
  have es : IntKind.i64.wrap (x - y) = x - y := by rw [IntKind.wrap_i64]; omega
  have et : IntKind.i64.wrap ((x + y).tdiv 2) = (x + y).tdiv 2 := by rw [IntKind.wrap_i64]; have := half_in (x + y); omega
  go_enter Try.func81, Try.ntmps81
  go_wp2_with fail
  obtain ⟨W0, b1, b2, b3, b4, eW, e1, e2, e3, e4, K1, K2, K3, K4, HB⟩ := four w (.cells #[.int .u64 n1, .int .i64 s1, .pointer none] 92) (.cells #[.int .u64 n2, .int .i64 s2, .pointer none] 92) (.cells #[.int .u64 n3, .int .i64 s3, .pointer none] 92) (.cells #[.int .u64 n4, .int .i64 s4, .pointer none] 92)
  rw [← eW, ← e4, ← e3, ← e2, ← e1]
  clear eW e1 e2 e3 e4
  obtain ⟨c10, c11, c12⟩ := tm_cells K1
  obtain ⟨c20, c21, c22⟩ := tm_cells K2
  obtain ⟨c30, c31, c32⟩ := tm_cells K3
  obtain ⟨c40, c41, c42⟩ := tm_cells K4
  clear K1 K2 K3 K4
  have HB0 := Keep.mk HB
  clear HB
  go_region_held3 (fun w' => w'.cell? ⟨b1, 0, none⟩ = some (.int .u64 n1) ∧ w'.cell? ⟨b1, 1, none⟩ = some (.int .i64 s1) ∧ w'.cell? ⟨b1, 2, none⟩ = some (.pointer none) ∧ w'.cell? ⟨b2, 0, none⟩ = some (.int .u64 n2) ∧ w'.cell? ⟨b2, 1, none⟩ = some (.int .i64 s2) ∧ w'.cell? ⟨b2, 2, none⟩ = some (.pointer none) ∧ w'.cell? ⟨b3, 0, none⟩ = some (.int .u64 n3) ∧ w'.cell? ⟨b3, 1, none⟩ = some (.int .i64 s3) ∧ w'.cell? ⟨b3, 2, none⟩ = some (.pointer none) ∧ w'.cell? ⟨b4, 0, none⟩ = some (.int .u64 n4) ∧ w'.cell? ⟨b4, 1, none⟩ = some (.int .i64 s4) ∧ w'.cell? ⟨b4, 2, none⟩ = some (.pointer none)) ((first | assumption | exact ⟨c10, c11, c12, c20, c21, c22, c30, c31, c32, c40, c41, c42⟩ | exact keep12 hb ⟨c10, c11, c12, c20, c21, c22, c30, c31, c32, c40, c41, c42⟩ | exact keep12 hb (by assumption)))
    (first | (go_at_call 93; first | (with_reducible refine (HX _).mono ?_; rintro e w2 ⟨rfl, hb⟩) | (with_reducible refine (HY _).mono ?_; rintro e w2 ⟨rfl, hb⟩)))
  all_goals
    go_ways
    go_wp2_with fail
    all_goals
      go_ret
      refine ⟨by first | (rw [show max (x - y) 0 = 0 by omega]; rfl) | (rw [show max (x - y) 0 = x - y by omega]; rfl), nxt (nxt HB0.out (undrew ?_)) hb⟩ <;> assumption

set_option maxHeartbeats 3200000 in
set_option maxRecDepth 100000 in
theorem minError_any (n1 s1 n2 s2 n3 s3 n4 s4 o r : Int) (w : World) (HO : ∀ W, Calls Try.prog 78 #[.agg (tm n1 s1), .agg (tm n2 s2), .agg (tm n3 s3), .agg (tm n4 s4)] W fun e w' => e = .returned (.int .i64 o) ∧ Below W.heap.size W w')
    (HR : ∀ W, Calls Try.prog 81 #[.agg (tm n1 s1), .agg (tm n2 s2), .agg (tm n3 s3), .agg (tm n4 s4)] W fun e w' => e = .returned (.int .i64 r) ∧ Below W.heap.size W w')
    (o0 : -4611686018427387904 ≤ o) (o1 : o < 4611686018427387904) (r0 : 0 ≤ r) (r1 : r < 9223372036854775808) :
    Calls Try.prog 82 #[.agg (tm n1 s1), .agg (tm n2 s2), .agg (tm n3 s3), .agg (tm n4 s4)] w fun e w' => e = .returned (.int .i64 (max (max o (-o) - r / 2) 0)) ∧ Below w.heap.size w w' := by
  have et : r.tdiv 2 = r / 2 := Int.tdiv_eq_ediv_of_nonneg r0
  unfold tm at HO HR ⊢
  go_enter Try.func82, Try.ntmps82
  go_wp2_with fail
  obtain ⟨W0, b1, b2, b3, b4, eW, e1, e2, e3, e4, K1, K2, K3, K4, HB⟩ := four w (.cells #[.int .u64 n1, .int .i64 s1, .pointer none] 92) (.cells #[.int .u64 n2, .int .i64 s2, .pointer none] 92) (.cells #[.int .u64 n3, .int .i64 s3, .pointer none] 92) (.cells #[.int .u64 n4, .int .i64 s4, .pointer none] 92)
  rw [← eW, ← e4, ← e3, ← e2, ← e1]
  clear eW e1 e2 e3 e4
  obtain ⟨c10, c11, c12⟩ := tm_cells K1
  obtain ⟨c20, c21, c22⟩ := tm_cells K2
  obtain ⟨c30, c31, c32⟩ := tm_cells K3
  obtain ⟨c40, c41, c42⟩ := tm_cells K4
  clear K1 K2 K3 K4
  have HB0 := Keep.mk HB
  clear HB
  go_wp2_with fail
  refine (HO _).mono ?_
  rintro e w1 ⟨rfl, hb⟩
  obtain ⟨k10, k11, k12, k20, k21, k22, k30, k31, k32, k40, k41, k42⟩ := keep12 hb ⟨c10, c11, c12, c20, c21, c22, c30, c31, c32, c40, c41, c42⟩
  have HB1 := Keep.mk (nxt HB0.out hb)
  clear hb c10 c11 c12 c20 c21 c22 c30 c31 c32 c40 c41 c42
  go_wp2_with fail
  all_goals
    refine (HR _).mono ?_
    rintro e w2 ⟨rfl, hb2⟩
    have HB2 := Keep.mk (nxt HB1.out hb2)
    clear hb2
    go_wp2_with fail
    all_goals
      go_ret
      refine ⟨?_, HB2.out⟩
      first
        | (rw [show max (max o (-o) - r / 2) 0 = 0 by omega]; rfl)
        | (rw [show max (max o (-o) - r / 2) 0 = o - r / 2 by omega]; rfl)
        | (rw [show max (max o (-o) - r / 2) 0 = -o - r / 2 by omega]; rfl)

set_option maxHeartbeats 800000 in
theorem zzoff_any (n1 s1 n2 s2 n3 s3 n4 s4 o : Int) (w : World) (HO : ∀ W, Calls Try.prog 78 #[.agg (tm n1 s1), .agg (tm n2 s2), .agg (tm n3 s3), .agg (tm n4 s4)] W fun e w' => e = .returned (.int .i64 o) ∧ Below W.heap.size W w') :
    Calls Try.prog 55 #[.agg (tm n1 s1), .agg (tm n2 s2), .agg (tm n3 s3), .agg (tm n4 s4)] w fun e w' => e = .returned (.int .i64 o) ∧ Below w.heap.size w w' := by
  unfold tm at HO ⊢
  go_enter Try.func55, Try.ntmps55
  go_wp2_with fail
  refine (HO _).mono ?_
  rintro e w1 ⟨rfl, hb⟩
  have HB1 := Keep.mk (nxt (alc (alc (alc (alc (Below.refl _ w) _) _) _) _) hb)
  clear hb
  go_wp2_with fail
  go_ret
  exact ⟨rfl, HB1.out⟩

set_option maxHeartbeats 800000 in
theorem zzrtt_any (n1 s1 n2 s2 n3 s3 n4 s4 o : Int) (w : World) (HO : ∀ W, Calls Try.prog 81 #[.agg (tm n1 s1), .agg (tm n2 s2), .agg (tm n3 s3), .agg (tm n4 s4)] W fun e w' => e = .returned (.int .i64 o) ∧ Below W.heap.size W w') :
    Calls Try.prog 57 #[.agg (tm n1 s1), .agg (tm n2 s2), .agg (tm n3 s3), .agg (tm n4 s4)] w fun e w' => e = .returned (.int .i64 o) ∧ Below w.heap.size w w' := by
  unfold tm at HO ⊢
  go_enter Try.func57, Try.ntmps57
  go_wp2_with fail
  refine (HO _).mono ?_
  rintro e w1 ⟨rfl, hb⟩
  have HB1 := Keep.mk (nxt (alc (alc (alc (alc (Below.refl _ w) _) _) _) _) hb)
  clear hb
  go_wp2_with fail
  go_ret
  exact ⟨rfl, HB1.out⟩

set_option maxHeartbeats 800000 in
theorem zzmin_any (n1 s1 n2 s2 n3 s3 n4 s4 o : Int) (w : World) (HO : ∀ W, Calls Try.prog 82 #[.agg (tm n1 s1), .agg (tm n2 s2), .agg (tm n3 s3), .agg (tm n4 s4)] W fun e w' => e = .returned (.int .i64 o) ∧ Below W.heap.size W w') :
    Calls Try.prog 58 #[.agg (tm n1 s1), .agg (tm n2 s2), .agg (tm n3 s3), .agg (tm n4 s4)] w fun e w' => e = .returned (.int .i64 o) ∧ Below w.heap.size w w' := by
  unfold tm at HO ⊢
  go_enter Try.func58, Try.ntmps58
  go_wp2_with fail
  refine (HO _).mono ?_
  rintro e w1 ⟨rfl, hb⟩
  have HB1 := Keep.mk (nxt (alc (alc (alc (alc (Below.refl _ w) _) _) _) _) hb)
  clear hb
  go_wp2_with fail
  go_ret
  exact ⟨rfl, HB1.out⟩

end Go.Proofs.Ytaanpoankljblaa.TmH
