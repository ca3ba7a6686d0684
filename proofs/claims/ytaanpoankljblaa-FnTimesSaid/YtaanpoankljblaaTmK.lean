/- FnTimes: every time. -/
import Derived.Test.YtaanpoankljblaaTmJ
import Derived.Deep.RegionHeld3
import Derived.Laws.NewBlocks
namespace Go.Proofs.Ytaanpoankljblaa.TmK
open Go.RowKit Go.Proofs.Ytaanpoankljblaa.RdA Go.Proofs.Ytaanpoankljblaa.FmtA Go.Proofs.Ytaanpoankljblaa.FmtB Go.Proofs.Ytaanpoankljblaa.RdF Go.Proofs.Ytaanpoankljblaa.RdD Go.Proofs.Ytaanpoankljblaa.TmA Go.Proofs.Ytaanpoankljblaa.TmB Go.Proofs.Ytaanpoankljblaa.TmC Go.Proofs.Ytaanpoankljblaa.TmD Go.Proofs.Ytaanpoankljblaa.TmE Go.Proofs.Ytaanpoankljblaa.TmH Go.Proofs.Ytaanpoankljblaa.TmJ
set_option linter.unusedVariables false
set_option linter.unusedSimpArgs false

theorem keep4 {W w' : World} {p0 p1 p2 p3 : Addr} {v0 v1 v2 v3 : Value} (hb : Below W.heap.size W w') (h : W.cell? p0 = some v0 ∧ W.cell? p1 = some v1 ∧ W.cell? p2 = some v2 ∧ W.cell? p3 = some v3) : w'.cell? p0 = some v0 ∧ w'.cell? p1 = some v1 ∧ w'.cell? p2 = some v2 ∧ w'.cell? p3 = some v3 := ⟨keep_cell hb (h.1), keep_cell hb (h.2.1), keep_cell hb (h.2.2.1), keep_cell hb (h.2.2.2)⟩

theorem bel1 {w w' : World} {e e' : Ending} (h : e = e' ∧ w' = w) : e = e' ∧ Below w.heap.size w w' := ⟨h.1, h.2 ▸ Below.refl _ _⟩
theorem bel2 {w w' : World} {o : Obj} {e e' : Ending} (h : e = e' ∧ w' = w.alloc o) : e = e' ∧ Below w.heap.size w w' := ⟨h.1, h.2 ▸ alc (Below.refl _ _) _⟩
theorem bel3 {w w' : World} {o p : Obj} {e e' : Ending} (h : e = e' ∧ w' = (w.alloc o).alloc p) : e = e' ∧ Below w.heap.size w w' := ⟨h.1, h.2 ▸ alc (alc (Below.refl _ _) _) _⟩

set_option maxHeartbeats 800000 in
theorem law_no (s n : Int) (w : World) (h : ¬ RightB s n) :
    Calls Try.prog 10 #[.agg #[.int .i64 s, .int .i64 n]] w fun e w' => e = .returned (.bool true) ∧ Below w.heap.size w w' := by
  have HR := fun W => right_no s n W h
  clear h
  go_enter Try.func10, Try.ntmps10
  go_wp2_with fail
  refine (moment_any _ _ _).mono ?_
  rintro e w1 ⟨rfl, rfl⟩
  go_wp2_with fail
  refine (HR _).mono ?_
  rintro e w1 ⟨rfl, rfl⟩
  go_wp2_with fail
  refine (Works.works_any _).mono ?_
  rintro e w1 ⟨rfl, hb⟩
  have HB : Keep (Below w.heap.size w w1) := ⟨nxt (by repeat (first | exact Below.refl _ _ | (refine alc ?_ _))) hb⟩
  clear hb
  go_wp2_with fail
  go_ret
  exact ⟨rfl, HB.out⟩

theorem frac_facts (n F : Int) (n0 : 0 ≤ n) (n1 : n < 1000000000) (hF : fracI n = F) : 0 ≤ F ∧ F < 4294967296 ∧ n - 1 ≤ F * 1000000000 / 4294967296 ∧ F * 1000000000 / 4294967296 ≤ n ∧ F * 1000000000 / 4294967296 + (F * 1000000000 % 4294967296 + 2147483648) / 4294967296 = n := by
  unfold fracI at hF
  omega

theorem back_facts (n F S N c s : Int) (n0 : 0 ≤ n) (n1 : n < 1000000000) (hF : fracI n = F) (S0 : 0 ≤ S) (S1 : S < 4294967296) (hN : S * 4294967296 + F = N) (hs : c + S = s) : c + durI N / 1000000000 = s ∧ durI N % 1000000000 = n := by
  obtain ⟨F0, F1, _, _, hr⟩ := frac_facts n F n0 n1 hF
  unfold durI
  have e1 : N / 4294967296 = S := by omega
  have e2 : N % 4294967296 = F := by omega
  rw [e1, e2, hr]
  omega


set_option maxHeartbeats 3200000 in
set_option maxRecDepth 100000 in
theorem law_0 (s n : Int) (w : World) (h : RightB s n) (s0 : -2208988800 ≤ s) (s1 : s < 2085978496) :
    Calls Try.prog 10 #[.agg #[.int .i64 s, .int .i64 n]] w fun e w' => e = .returned (.bool true) ∧ Below w.heap.size w w' := by
  have HR := fun W => right_yes s n W h
  obtain ⟨n0, n1, h2, h3⟩ := h
  have HT := fun W => toNTP0 s n W n0 n1 s0 s1
  obtain ⟨F, hF⟩ : ∃ F, fracI n = F := ⟨_, rfl⟩
  obtain ⟨F0, F1, f0, f1, _⟩ := frac_facts n F n0 n1 hF
  obtain ⟨S, hS⟩ : ∃ S, s - (-2208988800) = S := ⟨_, rfl⟩
  obtain ⟨N, hN⟩ : ∃ N, S * 4294967296 + F = N := ⟨_, rfl⟩
  rw [hS, hF, hN] at HT
  have S0 : 0 ≤ S := by omega
  have S1 : S < 4294967296 := by omega
  obtain ⟨g1, g2⟩ := back_facts n F S N (-2208988800) s n0 n1 hF S0 S1 hN (by omega)
  have HO := fun W => ofEra0 N W (by omega) (by omega)
  rw [g1, g2] at HO
  obtain ⟨r, hr⟩ : ∃ r, F * 1000000000 / 4294967296 = r := ⟨_, rfl⟩
  have HX := fun W => (between_any 0 0 0 n W (by decide) (by decide) (by decide) (by decide) (by decide) (by decide) (by omega) (by omega) (by decide) (by decide)).mono fun _ _ => bel3
  rw [show ((0 : Int) - 0) * 1000000000 + (n - 0) = n by omega] at HX
  have HF := fun W => (fraction_any F W F0 F1).mono fun _ _ => bel1
  rw [hr] at HF f0 f1
  have HC := fun W => (carry_any s n S W (by omega) h2 h3).mono fun _ _ => bel3
  have HN := fun W => (near_any n r W (by omega) (by omega) (by omega) (by omega) (by omega) (by omega)).mono fun _ _ => bel1
  have HE := fun W => specEra_any s n 0 W (by omega) h2 h3
  have HW := fun W => between_any s n s n W (by omega) (by omega) (by omega) (by omega) (by omega) (by omega) (by omega) (by omega) (by omega) (by omega)
  rw [show (s - s) * 1000000000 + (n - n) = 0 by omega] at HW
  have HZ := fun W => near_any 0 0 W (by decide) (by decide) (by decide) (by decide) (by decide) (by decide)
  have q1 : IntKind.u32.wrap N = F := by rw [IntKind.wrap_u32']; omega
  have q2 : N / 4294967296 = S := by omega
  have q3 : IntKind.u32.wrap S = S := by rw [IntKind.wrap_u32']; omega
  have q4 : IntKind.i64.wrap r = r := by rw [IntKind.wrap_i64]; omega
  have q5 : IntKind.i64.wrap (r + 0) = r := by rw [IntKind.wrap_i64]; omega
  clear hF hS hN g1 g2 hr
  go_enter Try.func10, Try.ntmps10
  go_wp2_with fail
  refine (moment_any _ _ _).mono ?_
  rintro e w1 ⟨rfl, rfl⟩
  go_wp2_with fail
  refine (HR _).mono ?_
  rintro e w1 ⟨rfl, rfl⟩
  go_wp2_with fail
  refine (HT _).mono ?_
  rintro e w1 ⟨rfl, hb⟩
  have K1 := (hb.block w.heap.size (by simp <;> omega)).trans (alloc_old (alloc_old (alloc_old (alloc_old (alloc_at rfl)))))
  have K3 := (hb.block (w.heap.size + 1 + 1 + 1) (by simp <;> omega)).trans (alloc_old (alloc_at (by simp)))
  have HB : Keep (Below w.heap.size w w1) := ⟨nxt (by repeat (first | exact Below.refl _ _ | (refine alc ?_ _))) hb⟩
  clear hb
  obtain ⟨b3, e3⟩ : ∃ b3, b3 = w.heap.size + 1 + 1 + 1 := ⟨_, rfl⟩
  obtain ⟨b1, e1⟩ : ∃ b1, b1 = w.heap.size := ⟨_, rfl⟩
  rw [← e3] at K3 ⊢
  rw [← e1] at K1 ⊢
  clear e1 e3
  obtain ⟨c10, c11⟩ := pl_cells K1
  obtain ⟨c30, c31⟩ := pl_cells K3
  clear K1 K3
  go_wp2_with fail
  go_region_held3 (fun w' => w'.cell? ⟨b1, 0, none⟩ = some (.int .i64 s) ∧ w'.cell? ⟨b1, 1, none⟩ = some (.int .i64 n) ∧ w'.cell? ⟨b3, 0, none⟩ = some (.int .i64 s) ∧ w'.cell? ⟨b3, 1, none⟩ = some (.int .i64 n)) ((first | assumption | exact ⟨c10, c11, c30, c31⟩ | exact keep4 hb ⟨c10, c11, c30, c31⟩ | exact keep4 hb (by assumption)))
    (first | (go_at_call 37; with_reducible refine (HX _).mono ?_; rintro e w2 ⟨rfl, hb⟩) | (go_at_call 14; with_reducible refine (HF _).mono ?_; rintro e w2 ⟨rfl, hb⟩) | (go_at_call 41; with_reducible refine (HC _).mono ?_; rintro e w2 ⟨rfl, hb⟩) | (go_at_call 15; with_reducible refine (HN _).mono ?_; rintro e w2 ⟨rfl, hb⟩))
  all_goals
    rename_i hH
    obtain ⟨k10, k11, k30, k31⟩ := hH
    have HB2 : Keep (Below w.heap.size w w2) := ⟨nxt (nxt (nxt (nxt HB.out (undrew (by assumption))) (by assumption)) (by assumption)) hb⟩
    clear hb c10 c11 c30 c31 HB
    go_ways
    go_wp2_with fail
    refine (HE _).mono ?_
    rintro e w4 ⟨rfl, rfl⟩
    go_wp2_with fail
    refine (HO _).mono ?_
    rintro e w5 ⟨rfl, hb5⟩
    have m30 := keep_cell hb5 (keep_cell (alc (Below.refl _ _) _) k30)
    have m31 := keep_cell hb5 (keep_cell (alc (Below.refl _ _) _) k31)
    have HB5 : Keep (Below w.heap.size w w5) := ⟨nxt (alc HB2.out _) hb5⟩
    have hl : b3 < w5.heap.size := cell_lies m30
    have hl1 : b3 < w5.heap.size + 1 := by omega
    have hl2 : b3 < w5.heap.size + 1 + 1 := by omega
    clear hb5 k10 k11 k30 k31
    go_wp2_with fail
    refine (moment_any _ _ _).mono ?_
    rintro e w6 ⟨rfl, rfl⟩
    go_wp2_with fail
    refine (HW _).mono ?_
    rintro e w6 ⟨rfl, rfl⟩
    go_wp2_with fail
    refine (HZ _).mono ?_
    rintro e w6 ⟨rfl, rfl⟩
    go_wp2_with fail
    refine (Works.works_any _).mono ?_
    rintro e w7 ⟨rfl, hb7⟩
    have HB7 : Keep (Below w.heap.size w w7) := ⟨nxt (by repeat (first | exact HB5.out | (refine alc ?_ _))) hb7⟩
    clear hb7
    go_wp2_with fail
    go_ret
    exact ⟨rfl, HB7.out⟩

set_option maxHeartbeats 3200000 in
set_option maxRecDepth 100000 in
theorem law_1 (s n : Int) (w : World) (h : RightB s n) (s0 : 2085978496 ≤ s) (s1 : s < 6380945792) :
    Calls Try.prog 10 #[.agg #[.int .i64 s, .int .i64 n]] w fun e w' => e = .returned (.bool true) ∧ Below w.heap.size w w' := by
  have HR := fun W => right_yes s n W h
  obtain ⟨n0, n1, h2, h3⟩ := h
  have HT := fun W => toNTP1 s n W n0 n1 s0 s1
  obtain ⟨F, hF⟩ : ∃ F, fracI n = F := ⟨_, rfl⟩
  obtain ⟨F0, F1, f0, f1, _⟩ := frac_facts n F n0 n1 hF
  obtain ⟨S, hS⟩ : ∃ S, s - (2085978496) = S := ⟨_, rfl⟩
  obtain ⟨N, hN⟩ : ∃ N, S * 4294967296 + F = N := ⟨_, rfl⟩
  rw [hS, hF, hN] at HT
  have S0 : 0 ≤ S := by omega
  have S1 : S < 4294967296 := by omega
  obtain ⟨g1, g2⟩ := back_facts n F S N (2085978496) s n0 n1 hF S0 S1 hN (by omega)
  have HO := fun W => ofEra1 N W (by omega) (by omega)
  rw [g1, g2] at HO
  obtain ⟨r, hr⟩ : ∃ r, F * 1000000000 / 4294967296 = r := ⟨_, rfl⟩
  have HX := fun W => (between_any 0 0 0 n W (by decide) (by decide) (by decide) (by decide) (by decide) (by decide) (by omega) (by omega) (by decide) (by decide)).mono fun _ _ => bel3
  rw [show ((0 : Int) - 0) * 1000000000 + (n - 0) = n by omega] at HX
  have HF := fun W => (fraction_any F W F0 F1).mono fun _ _ => bel1
  rw [hr] at HF f0 f1
  have HC := fun W => (carry_any s n S W (by omega) h2 h3).mono fun _ _ => bel3
  have HN := fun W => (near_any n r W (by omega) (by omega) (by omega) (by omega) (by omega) (by omega)).mono fun _ _ => bel1
  have HE := fun W => specEra_any s n 1 W (by omega) h2 h3
  have HW := fun W => between_any s n s n W (by omega) (by omega) (by omega) (by omega) (by omega) (by omega) (by omega) (by omega) (by omega) (by omega)
  rw [show (s - s) * 1000000000 + (n - n) = 0 by omega] at HW
  have HZ := fun W => near_any 0 0 W (by decide) (by decide) (by decide) (by decide) (by decide) (by decide)
  have q1 : IntKind.u32.wrap N = F := by rw [IntKind.wrap_u32']; omega
  have q2 : N / 4294967296 = S := by omega
  have q3 : IntKind.u32.wrap S = S := by rw [IntKind.wrap_u32']; omega
  have q4 : IntKind.i64.wrap r = r := by rw [IntKind.wrap_i64]; omega
  have q5 : IntKind.i64.wrap (r + 0) = r := by rw [IntKind.wrap_i64]; omega
  clear hF hS hN g1 g2 hr
  go_enter Try.func10, Try.ntmps10
  go_wp2_with fail
  refine (moment_any _ _ _).mono ?_
  rintro e w1 ⟨rfl, rfl⟩
  go_wp2_with fail
  refine (HR _).mono ?_
  rintro e w1 ⟨rfl, rfl⟩
  go_wp2_with fail
  refine (HT _).mono ?_
  rintro e w1 ⟨rfl, hb⟩
  have K1 := (hb.block w.heap.size (by simp <;> omega)).trans (alloc_old (alloc_old (alloc_old (alloc_old (alloc_at rfl)))))
  have K3 := (hb.block (w.heap.size + 1 + 1 + 1) (by simp <;> omega)).trans (alloc_old (alloc_at (by simp)))
  have HB : Keep (Below w.heap.size w w1) := ⟨nxt (by repeat (first | exact Below.refl _ _ | (refine alc ?_ _))) hb⟩
  clear hb
  obtain ⟨b3, e3⟩ : ∃ b3, b3 = w.heap.size + 1 + 1 + 1 := ⟨_, rfl⟩
  obtain ⟨b1, e1⟩ : ∃ b1, b1 = w.heap.size := ⟨_, rfl⟩
  rw [← e3] at K3 ⊢
  rw [← e1] at K1 ⊢
  clear e1 e3
  obtain ⟨c10, c11⟩ := pl_cells K1
  obtain ⟨c30, c31⟩ := pl_cells K3
  clear K1 K3
  go_wp2_with fail
  go_region_held3 (fun w' => w'.cell? ⟨b1, 0, none⟩ = some (.int .i64 s) ∧ w'.cell? ⟨b1, 1, none⟩ = some (.int .i64 n) ∧ w'.cell? ⟨b3, 0, none⟩ = some (.int .i64 s) ∧ w'.cell? ⟨b3, 1, none⟩ = some (.int .i64 n)) ((first | assumption | exact ⟨c10, c11, c30, c31⟩ | exact keep4 hb ⟨c10, c11, c30, c31⟩ | exact keep4 hb (by assumption)))
    (first | (go_at_call 37; with_reducible refine (HX _).mono ?_; rintro e w2 ⟨rfl, hb⟩) | (go_at_call 14; with_reducible refine (HF _).mono ?_; rintro e w2 ⟨rfl, hb⟩) | (go_at_call 41; with_reducible refine (HC _).mono ?_; rintro e w2 ⟨rfl, hb⟩) | (go_at_call 15; with_reducible refine (HN _).mono ?_; rintro e w2 ⟨rfl, hb⟩))
  all_goals
    rename_i hH
    obtain ⟨k10, k11, k30, k31⟩ := hH
    have HB2 : Keep (Below w.heap.size w w2) := ⟨nxt (nxt (nxt (nxt HB.out (undrew (by assumption))) (by assumption)) (by assumption)) hb⟩
    clear hb c10 c11 c30 c31 HB
    go_ways
    go_wp2_with fail
    refine (HE _).mono ?_
    rintro e w4 ⟨rfl, rfl⟩
    go_wp2_with fail
    refine (HO _).mono ?_
    rintro e w5 ⟨rfl, hb5⟩
    have m30 := keep_cell hb5 (keep_cell (alc (Below.refl _ _) _) k30)
    have m31 := keep_cell hb5 (keep_cell (alc (Below.refl _ _) _) k31)
    have HB5 : Keep (Below w.heap.size w w5) := ⟨nxt (alc HB2.out _) hb5⟩
    have hl : b3 < w5.heap.size := cell_lies m30
    have hl1 : b3 < w5.heap.size + 1 := by omega
    have hl2 : b3 < w5.heap.size + 1 + 1 := by omega
    clear hb5 k10 k11 k30 k31
    go_wp2_with fail
    refine (moment_any _ _ _).mono ?_
    rintro e w6 ⟨rfl, rfl⟩
    go_wp2_with fail
    refine (HW _).mono ?_
    rintro e w6 ⟨rfl, rfl⟩
    go_wp2_with fail
    refine (HZ _).mono ?_
    rintro e w6 ⟨rfl, rfl⟩
    go_wp2_with fail
    refine (Works.works_any _).mono ?_
    rintro e w7 ⟨rfl, hb7⟩
    have HB7 : Keep (Below w.heap.size w w7) := ⟨nxt (by repeat (first | exact HB5.out | (refine alc ?_ _))) hb7⟩
    clear hb7
    go_wp2_with fail
    go_ret
    exact ⟨rfl, HB7.out⟩

end Go.Proofs.Ytaanpoankljblaa.TmK
