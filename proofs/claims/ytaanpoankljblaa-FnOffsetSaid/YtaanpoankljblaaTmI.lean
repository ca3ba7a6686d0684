/- The reference's offset, rtt and least error; the package's, called with plain data. -/
import Derived.Test.YtaanpoankljblaaTmH
import Derived.Test.YtaanpoankljblaaTmE
namespace Go.Proofs.Ytaanpoankljblaa.TmI
open Go.RowKit Go.Proofs.Ytaanpoankljblaa.RdA Go.Proofs.Ytaanpoankljblaa.FmtA Go.Proofs.Ytaanpoankljblaa.FmtB Go.Proofs.Ytaanpoankljblaa.RdF Go.Proofs.Ytaanpoankljblaa.RdD Go.Proofs.Ytaanpoankljblaa.TmA Go.Proofs.Ytaanpoankljblaa.TmB Go.Proofs.Ytaanpoankljblaa.TmD Go.Proofs.Ytaanpoankljblaa.TmH
set_option linter.unusedVariables false
set_option linter.unusedSimpArgs false

theorem keep8 {W w' : World} {p0 p1 p2 p3 p4 p5 p6 p7 : Addr} {v0 v1 v2 v3 v4 v5 v6 v7 : Value} (hb : Below W.heap.size W w') (h : W.cell? p0 = some v0 ∧ W.cell? p1 = some v1 ∧ W.cell? p2 = some v2 ∧ W.cell? p3 = some v3 ∧ W.cell? p4 = some v4 ∧ W.cell? p5 = some v5 ∧ W.cell? p6 = some v6 ∧ W.cell? p7 = some v7) : w'.cell? p0 = some v0 ∧ w'.cell? p1 = some v1 ∧ w'.cell? p2 = some v2 ∧ w'.cell? p3 = some v3 ∧ w'.cell? p4 = some v4 ∧ w'.cell? p5 = some v5 ∧ w'.cell? p6 = some v6 ∧ w'.cell? p7 = some v7 := ⟨keep_cell hb (h.1), keep_cell hb (h.2.1), keep_cell hb (h.2.2.1), keep_cell hb (h.2.2.2.1), keep_cell hb (h.2.2.2.2.1), keep_cell hb (h.2.2.2.2.2.1), keep_cell hb (h.2.2.2.2.2.2.1), keep_cell hb (h.2.2.2.2.2.2.2)⟩

set_option maxHeartbeats 3200000 in
set_option maxRecDepth 100000 in
theorem sOffset_any (s1 n1 s2 n2 s3 n3 s4 n4 x y : Int) (w : World) (HX : ∀ W, Calls Try.prog 37 #[.agg #[.int .i64 s1, .int .i64 n1], .agg #[.int .i64 s2, .int .i64 n2]] W fun e w' => e = .returned (.int .i64 x) ∧ Below W.heap.size W w')
    (HY : ∀ W, Calls Try.prog 37 #[.agg #[.int .i64 s4, .int .i64 n4], .agg #[.int .i64 s3, .int .i64 n3]] W fun e w' => e = .returned (.int .i64 y) ∧ Below W.heap.size W w')
    (x0 : -4611686018427387904 ≤ x) (x1 : x < 4611686018427387904) (y0 : -4611686018427387904 ≤ y) (y1 : y < 4611686018427387904) :
    Calls Try.prog 30 #[.agg #[.int .i64 s1, .int .i64 n1], .agg #[.int .i64 s2, .int .i64 n2], .agg #[.int .i64 s3, .int .i64 n3], .agg #[.int .i64 s4, .int .i64 n4]] w fun e w' => e = .returned (.int .i64 ((x + y).tdiv 2)) ∧ Below w.heap.size w w' := by
  have es : IntKind.i64.wrap (x + y) = x + y := by rw [IntKind.wrap_i64]; omega
  have et : IntKind.i64.wrap ((x + y).tdiv 2) = (x + y).tdiv 2 := by rw [IntKind.wrap_i64]; have := half_in (x + y); omega
  go_enter Try.func30, Try.ntmps30
  go_wp2_with fail
  obtain ⟨W0, b1, b2, b3, b4, eW, e1, e2, e3, e4, K1, K2, K3, K4, HB⟩ := four w (.cells #[.int .i64 s1, .int .i64 n1] 50) (.cells #[.int .i64 s2, .int .i64 n2] 50) (.cells #[.int .i64 s3, .int .i64 n3] 50) (.cells #[.int .i64 s4, .int .i64 n4] 50)
  rw [← eW, ← e4, ← e3, ← e2, ← e1]
  clear eW e1 e2 e3 e4
  obtain ⟨c10, c11⟩ := pl_cells K1
  obtain ⟨c20, c21⟩ := pl_cells K2
  obtain ⟨c30, c31⟩ := pl_cells K3
  obtain ⟨c40, c41⟩ := pl_cells K4
  clear K1 K2 K3 K4
  have HB0 := Keep.mk HB
  clear HB
  go_region_held3 (fun w' => w'.cell? ⟨b1, 0, none⟩ = some (.int .i64 s1) ∧ w'.cell? ⟨b1, 1, none⟩ = some (.int .i64 n1) ∧ w'.cell? ⟨b2, 0, none⟩ = some (.int .i64 s2) ∧ w'.cell? ⟨b2, 1, none⟩ = some (.int .i64 n2) ∧ w'.cell? ⟨b3, 0, none⟩ = some (.int .i64 s3) ∧ w'.cell? ⟨b3, 1, none⟩ = some (.int .i64 n3) ∧ w'.cell? ⟨b4, 0, none⟩ = some (.int .i64 s4) ∧ w'.cell? ⟨b4, 1, none⟩ = some (.int .i64 n4)) ((first | assumption | exact ⟨c10, c11, c20, c21, c30, c31, c40, c41⟩ | exact keep8 hb ⟨c10, c11, c20, c21, c30, c31, c40, c41⟩ | exact keep8 hb (by assumption)))
    (first | (go_at_call 37; first | (with_reducible refine (HX _).mono ?_; rintro e w2 ⟨rfl, hb⟩) | (with_reducible refine (HY _).mono ?_; rintro e w2 ⟨rfl, hb⟩)))
  all_goals
    go_ways
    go_wp2_with fail
    all_goals
      go_ret
      refine ⟨rfl, nxt (nxt HB0.out (undrew ?_)) hb⟩ <;> assumption

set_option maxHeartbeats 3200000 in
set_option maxRecDepth 100000 in
theorem sRTT_any (s1 n1 s2 n2 s3 n3 s4 n4 x y : Int) (w : World) (HX : ∀ W, Calls Try.prog 37 #[.agg #[.int .i64 s1, .int .i64 n1], .agg #[.int .i64 s4, .int .i64 n4]] W fun e w' => e = .returned (.int .i64 x) ∧ Below W.heap.size W w')
    (HY : ∀ W, Calls Try.prog 37 #[.agg #[.int .i64 s2, .int .i64 n2], .agg #[.int .i64 s3, .int .i64 n3]] W fun e w' => e = .returned (.int .i64 y) ∧ Below W.heap.size W w')
    (x0 : -4611686018427387904 ≤ x) (x1 : x < 4611686018427387904) (y0 : -4611686018427387904 ≤ y) (y1 : y < 4611686018427387904) :
    Calls Try.prog 32 #[.agg #[.int .i64 s1, .int .i64 n1], .agg #[.int .i64 s2, .int .i64 n2], .agg #[.int .i64 s3, .int .i64 n3], .agg #[.int .i64 s4, .int .i64 n4]] w fun e w' => e = .returned (.int .i64 (max (x - y) 0)) ∧ Below w.heap.size w w' := by
  have es : IntKind.i64.wrap (x - y) = x - y := by rw [IntKind.wrap_i64]; omega
  have et : IntKind.i64.wrap ((x + y).tdiv 2) = (x + y).tdiv 2 := by rw [IntKind.wrap_i64]; have := half_in (x + y); omega
  go_enter Try.func32, Try.ntmps32
  go_wp2_with fail
  obtain ⟨W0, b1, b2, b3, b4, eW, e1, e2, e3, e4, K1, K2, K3, K4, HB⟩ := four w (.cells #[.int .i64 s1, .int .i64 n1] 50) (.cells #[.int .i64 s2, .int .i64 n2] 50) (.cells #[.int .i64 s3, .int .i64 n3] 50) (.cells #[.int .i64 s4, .int .i64 n4] 50)
  rw [← eW, ← e4, ← e3, ← e2, ← e1]
  clear eW e1 e2 e3 e4
  obtain ⟨c10, c11⟩ := pl_cells K1
  obtain ⟨c20, c21⟩ := pl_cells K2
  obtain ⟨c30, c31⟩ := pl_cells K3
  obtain ⟨c40, c41⟩ := pl_cells K4
  clear K1 K2 K3 K4
  have HB0 := Keep.mk HB
  clear HB
  go_region_held3 (fun w' => w'.cell? ⟨b1, 0, none⟩ = some (.int .i64 s1) ∧ w'.cell? ⟨b1, 1, none⟩ = some (.int .i64 n1) ∧ w'.cell? ⟨b2, 0, none⟩ = some (.int .i64 s2) ∧ w'.cell? ⟨b2, 1, none⟩ = some (.int .i64 n2) ∧ w'.cell? ⟨b3, 0, none⟩ = some (.int .i64 s3) ∧ w'.cell? ⟨b3, 1, none⟩ = some (.int .i64 n3) ∧ w'.cell? ⟨b4, 0, none⟩ = some (.int .i64 s4) ∧ w'.cell? ⟨b4, 1, none⟩ = some (.int .i64 n4)) ((first | assumption | exact ⟨c10, c11, c20, c21, c30, c31, c40, c41⟩ | exact keep8 hb ⟨c10, c11, c20, c21, c30, c31, c40, c41⟩ | exact keep8 hb (by assumption)))
    (first | (go_at_call 37; first | (with_reducible refine (HX _).mono ?_; rintro e w2 ⟨rfl, hb⟩) | (with_reducible refine (HY _).mono ?_; rintro e w2 ⟨rfl, hb⟩)))
  all_goals
    go_ways
    go_wp2_with fail
    all_goals
      go_ret
      refine ⟨by first | (rw [show max (x - y) 0 = 0 by omega]; rfl) | (rw [show max (x - y) 0 = x - y by omega]; rfl), nxt (nxt HB0.out (undrew ?_)) hb⟩ <;> assumption

set_option maxHeartbeats 3200000 in
set_option maxRecDepth 100000 in
theorem sMin_any (m s1 n1 s2 n2 s3 n3 s4 n4 a b : Int) (w : World) (HX : ∀ W, Calls Try.prog 37 #[.agg #[.int .i64 s2, .int .i64 n2], .agg #[.int .i64 s1, .int .i64 n1]] W fun e w' => e = .returned (.int .i64 a) ∧ Below W.heap.size W w')
    (HY : ∀ W, Calls Try.prog 37 #[.agg #[.int .i64 s4, .int .i64 n4], .agg #[.int .i64 s3, .int .i64 n3]] W fun e w' => e = .returned (.int .i64 b) ∧ Below W.heap.size W w')
    (m0 : 0 ≤ m) (m1 : m ≤ max (max a b) 0) :
    Calls Try.prog 33 #[.int .i64 m, .agg #[.int .i64 s1, .int .i64 n1], .agg #[.int .i64 s2, .int .i64 n2], .agg #[.int .i64 s3, .int .i64 n3], .agg #[.int .i64 s4, .int .i64 n4]] w fun e w' => e = .returned (.bool true) ∧ Below w.heap.size w w' := by
  have hd : decide (0 ≤ m) = true := decide_eq_true m0
  go_enter Try.func33, Try.ntmps33
  go_wp2_with fail
  obtain ⟨W0, b1, b2, b3, b4, eW, e1, e2, e3, e4, K1, K2, K3, K4, HB⟩ := four w (.cells #[.int .i64 s1, .int .i64 n1] 50) (.cells #[.int .i64 s2, .int .i64 n2] 50) (.cells #[.int .i64 s3, .int .i64 n3] 50) (.cells #[.int .i64 s4, .int .i64 n4] 50)
  rw [← eW, ← e4, ← e3, ← e2, ← e1]
  clear eW e1 e2 e3 e4
  obtain ⟨c10, c11⟩ := pl_cells K1
  obtain ⟨c20, c21⟩ := pl_cells K2
  obtain ⟨c30, c31⟩ := pl_cells K3
  obtain ⟨c40, c41⟩ := pl_cells K4
  clear K1 K2 K3 K4
  have HB0 := Keep.mk HB
  clear HB
  go_region_held3 (fun w' => w'.cell? ⟨b1, 0, none⟩ = some (.int .i64 s1) ∧ w'.cell? ⟨b1, 1, none⟩ = some (.int .i64 n1) ∧ w'.cell? ⟨b2, 0, none⟩ = some (.int .i64 s2) ∧ w'.cell? ⟨b2, 1, none⟩ = some (.int .i64 n2) ∧ w'.cell? ⟨b3, 0, none⟩ = some (.int .i64 s3) ∧ w'.cell? ⟨b3, 1, none⟩ = some (.int .i64 n3) ∧ w'.cell? ⟨b4, 0, none⟩ = some (.int .i64 s4) ∧ w'.cell? ⟨b4, 1, none⟩ = some (.int .i64 n4)) ((first | assumption | exact ⟨c10, c11, c20, c21, c30, c31, c40, c41⟩ | exact keep8 hb ⟨c10, c11, c20, c21, c30, c31, c40, c41⟩ | exact keep8 hb (by assumption)))
    (first | (go_at_call 37; first | (with_reducible refine (HX _).mono ?_; rintro e w2 ⟨rfl, hb⟩) | (with_reducible refine (HY _).mono ?_; rintro e w2 ⟨rfl, hb⟩)))
  all_goals
    go_ways
    go_wp2_with fail
    all_goals
      go_ret
      refine ⟨?_, nxt (nxt HB0.out (undrew ?_)) hb⟩
      · first
          | rfl
          | exact congrArg (fun z => Ending.returned (Value.bool z)) (decide_eq_true (by omega))
          | exact congrArg (fun z => Ending.returned (Value.bool z)) (decide_eq_true (by split <;> split <;> omega))
          | exact congrArg (fun z => Ending.returned (Value.bool z)) (decide_eq_true (by split <;> omega))
      · assumption

set_option maxHeartbeats 3200000 in
set_option maxRecDepth 100000 in
theorem iOffset_any (s1 n1 s2 n2 s3 n3 s4 n4 o : Int) (w : World)
    (H1 : ∀ W, Calls Try.prog 56 #[.agg #[.int .i64 s1, .int .i64 n1]] W fun e w' => e = .returned (.agg (tm n1 (s1 + 62135596800))) ∧ Below W.heap.size W w') (H2 : ∀ W, Calls Try.prog 56 #[.agg #[.int .i64 s2, .int .i64 n2]] W fun e w' => e = .returned (.agg (tm n2 (s2 + 62135596800))) ∧ Below W.heap.size W w') (H3 : ∀ W, Calls Try.prog 56 #[.agg #[.int .i64 s3, .int .i64 n3]] W fun e w' => e = .returned (.agg (tm n3 (s3 + 62135596800))) ∧ Below W.heap.size W w') (H4 : ∀ W, Calls Try.prog 56 #[.agg #[.int .i64 s4, .int .i64 n4]] W fun e w' => e = .returned (.agg (tm n4 (s4 + 62135596800))) ∧ Below W.heap.size W w')
    (HZ : ∀ W, Calls Try.prog 55 #[.agg (tm n1 (s1 + 62135596800)), .agg (tm n2 (s2 + 62135596800)), .agg (tm n3 (s3 + 62135596800)), .agg (tm n4 (s4 + 62135596800))] W fun e w' => e = .returned (.int .i64 o) ∧ Below W.heap.size W w') :
    Calls Try.prog 29 #[.agg #[.int .i64 s1, .int .i64 n1], .agg #[.int .i64 s2, .int .i64 n2], .agg #[.int .i64 s3, .int .i64 n3], .agg #[.int .i64 s4, .int .i64 n4]] w fun e w' => e = .returned (.int .i64 o) ∧ Below w.heap.size w w' := by
  unfold tm at H1 H2 H3 H4 HZ
  go_enter Try.func29, Try.ntmps29
  go_wp2_with fail
  obtain ⟨W0, b1, b2, b3, b4, eW, e1, e2, e3, e4, K1, K2, K3, K4, HB⟩ := four w (.cells #[.int .i64 s1, .int .i64 n1] 49) (.cells #[.int .i64 s2, .int .i64 n2] 49) (.cells #[.int .i64 s3, .int .i64 n3] 49) (.cells #[.int .i64 s4, .int .i64 n4] 49)
  rw [← eW, ← e4, ← e3, ← e2, ← e1]
  clear eW e1 e2 e3 e4
  obtain ⟨c10, c11⟩ := pl_cells K1
  obtain ⟨c20, c21⟩ := pl_cells K2
  obtain ⟨c30, c31⟩ := pl_cells K3
  obtain ⟨c40, c41⟩ := pl_cells K4
  clear K1 K2 K3 K4
  have HB0 := Keep.mk HB
  clear HB
  go_region_held3 (fun w' => w'.cell? ⟨b1, 0, none⟩ = some (.int .i64 s1) ∧ w'.cell? ⟨b1, 1, none⟩ = some (.int .i64 n1) ∧ w'.cell? ⟨b2, 0, none⟩ = some (.int .i64 s2) ∧ w'.cell? ⟨b2, 1, none⟩ = some (.int .i64 n2) ∧ w'.cell? ⟨b3, 0, none⟩ = some (.int .i64 s3) ∧ w'.cell? ⟨b3, 1, none⟩ = some (.int .i64 n3) ∧ w'.cell? ⟨b4, 0, none⟩ = some (.int .i64 s4) ∧ w'.cell? ⟨b4, 1, none⟩ = some (.int .i64 n4)) ((first | assumption | exact ⟨c10, c11, c20, c21, c30, c31, c40, c41⟩ | exact keep8 hb ⟨c10, c11, c20, c21, c30, c31, c40, c41⟩ | exact keep8 hb (by assumption)))
    (first | (go_at_call 56; first | (with_reducible refine (H1 _).mono ?_; rintro e w2 ⟨rfl, hb⟩) | (with_reducible refine (H2 _).mono ?_; rintro e w2 ⟨rfl, hb⟩) | (with_reducible refine (H3 _).mono ?_; rintro e w2 ⟨rfl, hb⟩) | (with_reducible refine (H4 _).mono ?_; rintro e w2 ⟨rfl, hb⟩)) | (go_at_call 55; with_reducible refine (HZ _).mono ?_; rintro e w2 ⟨rfl, hb⟩))
  all_goals
    go_ways
    go_wp2_with fail
    go_ret
    exact ⟨rfl, nxt (nxt (nxt (nxt (nxt HB0.out (undrew (by assumption))) (by assumption)) (by assumption)) (by assumption)) hb⟩

set_option maxHeartbeats 3200000 in
set_option maxRecDepth 100000 in
theorem iRTT_any (s1 n1 s2 n2 s3 n3 s4 n4 o : Int) (w : World)
    (H1 : ∀ W, Calls Try.prog 56 #[.agg #[.int .i64 s1, .int .i64 n1]] W fun e w' => e = .returned (.agg (tm n1 (s1 + 62135596800))) ∧ Below W.heap.size W w') (H2 : ∀ W, Calls Try.prog 56 #[.agg #[.int .i64 s2, .int .i64 n2]] W fun e w' => e = .returned (.agg (tm n2 (s2 + 62135596800))) ∧ Below W.heap.size W w') (H3 : ∀ W, Calls Try.prog 56 #[.agg #[.int .i64 s3, .int .i64 n3]] W fun e w' => e = .returned (.agg (tm n3 (s3 + 62135596800))) ∧ Below W.heap.size W w') (H4 : ∀ W, Calls Try.prog 56 #[.agg #[.int .i64 s4, .int .i64 n4]] W fun e w' => e = .returned (.agg (tm n4 (s4 + 62135596800))) ∧ Below W.heap.size W w')
    (HZ : ∀ W, Calls Try.prog 57 #[.agg (tm n1 (s1 + 62135596800)), .agg (tm n2 (s2 + 62135596800)), .agg (tm n3 (s3 + 62135596800)), .agg (tm n4 (s4 + 62135596800))] W fun e w' => e = .returned (.int .i64 o) ∧ Below W.heap.size W w') :
    Calls Try.prog 31 #[.agg #[.int .i64 s1, .int .i64 n1], .agg #[.int .i64 s2, .int .i64 n2], .agg #[.int .i64 s3, .int .i64 n3], .agg #[.int .i64 s4, .int .i64 n4]] w fun e w' => e = .returned (.int .i64 o) ∧ Below w.heap.size w w' := by
  unfold tm at H1 H2 H3 H4 HZ
  go_enter Try.func31, Try.ntmps31
  go_wp2_with fail
  obtain ⟨W0, b1, b2, b3, b4, eW, e1, e2, e3, e4, K1, K2, K3, K4, HB⟩ := four w (.cells #[.int .i64 s1, .int .i64 n1] 49) (.cells #[.int .i64 s2, .int .i64 n2] 49) (.cells #[.int .i64 s3, .int .i64 n3] 49) (.cells #[.int .i64 s4, .int .i64 n4] 49)
  rw [← eW, ← e4, ← e3, ← e2, ← e1]
  clear eW e1 e2 e3 e4
  obtain ⟨c10, c11⟩ := pl_cells K1
  obtain ⟨c20, c21⟩ := pl_cells K2
  obtain ⟨c30, c31⟩ := pl_cells K3
  obtain ⟨c40, c41⟩ := pl_cells K4
  clear K1 K2 K3 K4
  have HB0 := Keep.mk HB
  clear HB
  go_region_held3 (fun w' => w'.cell? ⟨b1, 0, none⟩ = some (.int .i64 s1) ∧ w'.cell? ⟨b1, 1, none⟩ = some (.int .i64 n1) ∧ w'.cell? ⟨b2, 0, none⟩ = some (.int .i64 s2) ∧ w'.cell? ⟨b2, 1, none⟩ = some (.int .i64 n2) ∧ w'.cell? ⟨b3, 0, none⟩ = some (.int .i64 s3) ∧ w'.cell? ⟨b3, 1, none⟩ = some (.int .i64 n3) ∧ w'.cell? ⟨b4, 0, none⟩ = some (.int .i64 s4) ∧ w'.cell? ⟨b4, 1, none⟩ = some (.int .i64 n4)) ((first | assumption | exact ⟨c10, c11, c20, c21, c30, c31, c40, c41⟩ | exact keep8 hb ⟨c10, c11, c20, c21, c30, c31, c40, c41⟩ | exact keep8 hb (by assumption)))
    (first | (go_at_call 56; first | (with_reducible refine (H1 _).mono ?_; rintro e w2 ⟨rfl, hb⟩) | (with_reducible refine (H2 _).mono ?_; rintro e w2 ⟨rfl, hb⟩) | (with_reducible refine (H3 _).mono ?_; rintro e w2 ⟨rfl, hb⟩) | (with_reducible refine (H4 _).mono ?_; rintro e w2 ⟨rfl, hb⟩)) | (go_at_call 57; with_reducible refine (HZ _).mono ?_; rintro e w2 ⟨rfl, hb⟩))
  all_goals
    go_ways
    go_wp2_with fail
    go_ret
    exact ⟨rfl, nxt (nxt (nxt (nxt (nxt HB0.out (undrew (by assumption))) (by assumption)) (by assumption)) (by assumption)) hb⟩

set_option maxHeartbeats 3200000 in
set_option maxRecDepth 100000 in
theorem iMin_any (s1 n1 s2 n2 s3 n3 s4 n4 o : Int) (w : World)
    (H1 : ∀ W, Calls Try.prog 56 #[.agg #[.int .i64 s1, .int .i64 n1]] W fun e w' => e = .returned (.agg (tm n1 (s1 + 62135596800))) ∧ Below W.heap.size W w') (H2 : ∀ W, Calls Try.prog 56 #[.agg #[.int .i64 s2, .int .i64 n2]] W fun e w' => e = .returned (.agg (tm n2 (s2 + 62135596800))) ∧ Below W.heap.size W w') (H3 : ∀ W, Calls Try.prog 56 #[.agg #[.int .i64 s3, .int .i64 n3]] W fun e w' => e = .returned (.agg (tm n3 (s3 + 62135596800))) ∧ Below W.heap.size W w') (H4 : ∀ W, Calls Try.prog 56 #[.agg #[.int .i64 s4, .int .i64 n4]] W fun e w' => e = .returned (.agg (tm n4 (s4 + 62135596800))) ∧ Below W.heap.size W w')
    (HZ : ∀ W, Calls Try.prog 58 #[.agg (tm n1 (s1 + 62135596800)), .agg (tm n2 (s2 + 62135596800)), .agg (tm n3 (s3 + 62135596800)), .agg (tm n4 (s4 + 62135596800))] W fun e w' => e = .returned (.int .i64 o) ∧ Below W.heap.size W w') :
    Calls Try.prog 34 #[.agg #[.int .i64 s1, .int .i64 n1], .agg #[.int .i64 s2, .int .i64 n2], .agg #[.int .i64 s3, .int .i64 n3], .agg #[.int .i64 s4, .int .i64 n4]] w fun e w' => e = .returned (.int .i64 o) ∧ Below w.heap.size w w' := by
  unfold tm at H1 H2 H3 H4 HZ
  go_enter Try.func34, Try.ntmps34
  go_wp2_with fail
  obtain ⟨W0, b1, b2, b3, b4, eW, e1, e2, e3, e4, K1, K2, K3, K4, HB⟩ := four w (.cells #[.int .i64 s1, .int .i64 n1] 49) (.cells #[.int .i64 s2, .int .i64 n2] 49) (.cells #[.int .i64 s3, .int .i64 n3] 49) (.cells #[.int .i64 s4, .int .i64 n4] 49)
  rw [← eW, ← e4, ← e3, ← e2, ← e1]
  clear eW e1 e2 e3 e4
  obtain ⟨c10, c11⟩ := pl_cells K1
  obtain ⟨c20, c21⟩ := pl_cells K2
  obtain ⟨c30, c31⟩ := pl_cells K3
  obtain ⟨c40, c41⟩ := pl_cells K4
  clear K1 K2 K3 K4
  have HB0 := Keep.mk HB
  clear HB
  go_region_held3 (fun w' => w'.cell? ⟨b1, 0, none⟩ = some (.int .i64 s1) ∧ w'.cell? ⟨b1, 1, none⟩ = some (.int .i64 n1) ∧ w'.cell? ⟨b2, 0, none⟩ = some (.int .i64 s2) ∧ w'.cell? ⟨b2, 1, none⟩ = some (.int .i64 n2) ∧ w'.cell? ⟨b3, 0, none⟩ = some (.int .i64 s3) ∧ w'.cell? ⟨b3, 1, none⟩ = some (.int .i64 n3) ∧ w'.cell? ⟨b4, 0, none⟩ = some (.int .i64 s4) ∧ w'.cell? ⟨b4, 1, none⟩ = some (.int .i64 n4)) ((first | assumption | exact ⟨c10, c11, c20, c21, c30, c31, c40, c41⟩ | exact keep8 hb ⟨c10, c11, c20, c21, c30, c31, c40, c41⟩ | exact keep8 hb (by assumption)))
    (first | (go_at_call 56; first | (with_reducible refine (H1 _).mono ?_; rintro e w2 ⟨rfl, hb⟩) | (with_reducible refine (H2 _).mono ?_; rintro e w2 ⟨rfl, hb⟩) | (with_reducible refine (H3 _).mono ?_; rintro e w2 ⟨rfl, hb⟩) | (with_reducible refine (H4 _).mono ?_; rintro e w2 ⟨rfl, hb⟩)) | (go_at_call 58; with_reducible refine (HZ _).mono ?_; rintro e w2 ⟨rfl, hb⟩))
  all_goals
    go_ways
    go_wp2_with fail
    go_ret
    exact ⟨rfl, nxt (nxt (nxt (nxt (nxt HB0.out (undrew (by assumption))) (by assumption)) (by assumption)) (by assumption)) hb⟩

end Go.Proofs.Ytaanpoankljblaa.TmI
