/- FnOffset: what the package and the reference make of four times that are right and not far apart. -/
import Derived.Test.YtaanpoankljblaaTmI
namespace Go.Proofs.Ytaanpoankljblaa.TmM
open Go.RowKit Go.Proofs.Ytaanpoankljblaa.RdA Go.Proofs.Ytaanpoankljblaa.FmtA Go.Proofs.Ytaanpoankljblaa.FmtB Go.Proofs.Ytaanpoankljblaa.RdF Go.Proofs.Ytaanpoankljblaa.RdD Go.Proofs.Ytaanpoankljblaa.TmA Go.Proofs.Ytaanpoankljblaa.TmB Go.Proofs.Ytaanpoankljblaa.TmD Go.Proofs.Ytaanpoankljblaa.TmE Go.Proofs.Ytaanpoankljblaa.TmH Go.Proofs.Ytaanpoankljblaa.TmI
set_option linter.unusedVariables false
set_option linter.unusedSimpArgs false

theorem bel3 {w w' : World} {o p : Obj} {e e' : Ending} (h : e = e' ∧ w' = (w.alloc o).alloc p) : e = e' ∧ Below w.heap.size w w' := ⟨h.1, h.2 ▸ alc (alc (Below.refl _ _) _) _⟩

theorem half_of (z o : Int) (h : z.tdiv 2 = o) : (0 ≤ z ∧ o = z / 2) ∨ (z < 0 ∧ o = -(-z / 2)) := by
  by_cases hz : 0 ≤ z
  · exact .inl ⟨hz, by rw [← h, Int.tdiv_eq_ediv_of_nonneg hz]⟩
  · refine .inr ⟨by omega, ?_⟩
    have h1 : (-z).tdiv 2 = -(z.tdiv 2) := Int.neg_tdiv z 2
    rw [Int.tdiv_eq_ediv_of_nonneg (by omega)] at h1
    omega

theorem min_law (x y o r : Int) (ho : (x + y).tdiv 2 = o) (hr : max (x - y) 0 = r) : max (max o (-o) - r / 2) 0 ≤ max (max (-x) y) 0 := by
  rcases half_of _ _ ho with ⟨h1, h2⟩ | ⟨h1, h2⟩ <;> omega

set_option maxHeartbeats 1600000 in
theorem all (s1 n1 s2 n2 s3 n3 s4 n4 : Int) (a1 : 0 ≤ n1) (b1 : n1 < 1000000000) (c1 : -2208988800 ≤ s1) (d1 : s1 < 4000000000) (a2 : 0 ≤ n2) (b2 : n2 < 1000000000) (c2 : -2208988800 ≤ s2) (d2 : s2 < 4000000000) (a3 : 0 ≤ n3) (b3 : n3 < 1000000000) (c3 : -2208988800 ≤ s3) (d3 : s3 < 4000000000) (a4 : 0 ≤ n4) (b4 : n4 < 1000000000) (c4 : -2208988800 ≤ s4) (d4 : s4 < 4000000000)
    (j1 : s1 - s2 ≤ 2000000000) (j2 : s1 - s3 ≤ 2000000000) (j3 : s1 - s4 ≤ 2000000000) (j4 : s2 - s1 ≤ 2000000000) (j5 : s2 - s3 ≤ 2000000000) (j6 : s2 - s4 ≤ 2000000000) (j7 : s3 - s1 ≤ 2000000000) (j8 : s3 - s2 ≤ 2000000000) (j9 : s3 - s4 ≤ 2000000000) (j10 : s4 - s1 ≤ 2000000000) (j11 : s4 - s2 ≤ 2000000000) (j12 : s4 - s3 ≤ 2000000000) :
    ∃ o r m : Int, (∀ W, Calls Try.prog 29 #[.agg #[.int .i64 s1, .int .i64 n1], .agg #[.int .i64 s2, .int .i64 n2], .agg #[.int .i64 s3, .int .i64 n3], .agg #[.int .i64 s4, .int .i64 n4]] W fun e w' => e = .returned (.int .i64 o) ∧ Below W.heap.size W w') ∧ (∀ W, Calls Try.prog 30 #[.agg #[.int .i64 s1, .int .i64 n1], .agg #[.int .i64 s2, .int .i64 n2], .agg #[.int .i64 s3, .int .i64 n3], .agg #[.int .i64 s4, .int .i64 n4]] W fun e w' => e = .returned (.int .i64 o) ∧ Below W.heap.size W w') ∧
      (∀ W, Calls Try.prog 31 #[.agg #[.int .i64 s1, .int .i64 n1], .agg #[.int .i64 s2, .int .i64 n2], .agg #[.int .i64 s3, .int .i64 n3], .agg #[.int .i64 s4, .int .i64 n4]] W fun e w' => e = .returned (.int .i64 r) ∧ Below W.heap.size W w') ∧ (∀ W, Calls Try.prog 32 #[.agg #[.int .i64 s1, .int .i64 n1], .agg #[.int .i64 s2, .int .i64 n2], .agg #[.int .i64 s3, .int .i64 n3], .agg #[.int .i64 s4, .int .i64 n4]] W fun e w' => e = .returned (.int .i64 r) ∧ Below W.heap.size W w') ∧
      (∀ W, Calls Try.prog 34 #[.agg #[.int .i64 s1, .int .i64 n1], .agg #[.int .i64 s2, .int .i64 n2], .agg #[.int .i64 s3, .int .i64 n3], .agg #[.int .i64 s4, .int .i64 n4]] W fun e w' => e = .returned (.int .i64 m) ∧ Below W.heap.size W w') ∧ (∀ W, Calls Try.prog 33 #[.int .i64 m, .agg #[.int .i64 s1, .int .i64 n1], .agg #[.int .i64 s2, .int .i64 n2], .agg #[.int .i64 s3, .int .i64 n3], .agg #[.int .i64 s4, .int .i64 n4]] W fun e w' => e = .returned (.bool true) ∧ Below W.heap.size W w') := by
  obtain ⟨x, hx⟩ : ∃ v, (s2 - s1) * 1000000000 + (n2 - n1) = v := ⟨_, rfl⟩
  obtain ⟨y, hy⟩ : ∃ v, (s3 - s4) * 1000000000 + (n3 - n4) = v := ⟨_, rfl⟩
  obtain ⟨p, hp⟩ : ∃ v, (s4 - s1) * 1000000000 + (n4 - n1) = v := ⟨_, rfl⟩
  obtain ⟨q, hq⟩ : ∃ v, (s3 - s2) * 1000000000 + (n3 - n2) = v := ⟨_, rfl⟩
  obtain ⟨a, ha⟩ : ∃ v, (s1 - s2) * 1000000000 + (n1 - n2) = v := ⟨_, rfl⟩
  have SX := fun W => sub_any n2 (s2 + 62135596800) n1 (s1 + 62135596800) W a2 b2 a1 b1 (by omega) (by omega) (by omega) (by omega) (by omega) (by omega)
  rw [show (s2 + 62135596800 - (s1 + 62135596800)) * 1000000000 + (n2 - n1) = x by rw [← hx]; omega] at SX
  have SY := fun W => sub_any n3 (s3 + 62135596800) n4 (s4 + 62135596800) W a3 b3 a4 b4 (by omega) (by omega) (by omega) (by omega) (by omega) (by omega)
  rw [show (s3 + 62135596800 - (s4 + 62135596800)) * 1000000000 + (n3 - n4) = y by rw [← hy]; omega] at SY
  have SP := fun W => sub_any n4 (s4 + 62135596800) n1 (s1 + 62135596800) W a4 b4 a1 b1 (by omega) (by omega) (by omega) (by omega) (by omega) (by omega)
  rw [show (s4 + 62135596800 - (s1 + 62135596800)) * 1000000000 + (n4 - n1) = p by rw [← hp]; omega] at SP
  have SQ := fun W => sub_any n3 (s3 + 62135596800) n2 (s2 + 62135596800) W a3 b3 a2 b2 (by omega) (by omega) (by omega) (by omega) (by omega) (by omega)
  rw [show (s3 + 62135596800 - (s2 + 62135596800)) * 1000000000 + (n3 - n2) = q by rw [← hq]; omega] at SQ
  have BX := fun W => (between_any s1 n1 s2 n2 W (by omega) (by omega) (by omega) (by omega) (by omega) (by omega) (by omega) (by omega) (by omega) (by omega)).mono fun _ _ => bel3
  rw [show (s2 - s1) * 1000000000 + (n2 - n1) = x by rw [← hx]] at BX
  have BY := fun W => (between_any s4 n4 s3 n3 W (by omega) (by omega) (by omega) (by omega) (by omega) (by omega) (by omega) (by omega) (by omega) (by omega)).mono fun _ _ => bel3
  rw [show (s3 - s4) * 1000000000 + (n3 - n4) = y by rw [← hy]] at BY
  have BP := fun W => (between_any s1 n1 s4 n4 W (by omega) (by omega) (by omega) (by omega) (by omega) (by omega) (by omega) (by omega) (by omega) (by omega)).mono fun _ _ => bel3
  rw [show (s4 - s1) * 1000000000 + (n4 - n1) = p by rw [← hp]] at BP
  have BQ := fun W => (between_any s2 n2 s3 n3 W (by omega) (by omega) (by omega) (by omega) (by omega) (by omega) (by omega) (by omega) (by omega) (by omega)).mono fun _ _ => bel3
  rw [show (s3 - s2) * 1000000000 + (n3 - n2) = q by rw [← hq]] at BQ
  have BA := fun W => (between_any s2 n2 s1 n1 W (by omega) (by omega) (by omega) (by omega) (by omega) (by omega) (by omega) (by omega) (by omega) (by omega)).mono fun _ _ => bel3
  rw [show (s1 - s2) * 1000000000 + (n1 - n2) = a by rw [← ha]] at BA
  have G1 := fun W => given_any s1 n1 W a1 b1 (by omega) (by omega)
  have G2 := fun W => given_any s2 n2 W a2 b2 (by omega) (by omega)
  have G3 := fun W => given_any s3 n3 W a3 b3 (by omega) (by omega)
  have G4 := fun W => given_any s4 n4 W a4 b4 (by omega) (by omega)
  have ex : p - q = x - y := by omega
  have ea : a = -x := by omega
  have x0 : -4000000000000000000 ≤ x := by omega
  have x1 : x < 4000000000000000000 := by omega
  have y0 : -4000000000000000000 ≤ y := by omega
  have y1 : y < 4000000000000000000 := by omega
  have p0 : -4000000000000000000 ≤ p := by omega
  have p1 : p < 4000000000000000000 := by omega
  have q0 : -4000000000000000000 ≤ q := by omega
  have q1 : q < 4000000000000000000 := by omega
  clear hx hy hp hq ha
  have O := fun W => offset_any n1 (s1 + 62135596800) n2 (s2 + 62135596800) n3 (s3 + 62135596800) n4 (s4 + 62135596800) x y W SX SY (by omega) (by omega) (by omega) (by omega)
  have R := fun W => rtt_any n1 (s1 + 62135596800) n2 (s2 + 62135596800) n3 (s3 + 62135596800) n4 (s4 + 62135596800) p q W SP SQ (by omega) (by omega) (by omega) (by omega)
  have SO := fun W => sOffset_any s1 n1 s2 n2 s3 n3 s4 n4 x y W BX BY (by omega) (by omega) (by omega) (by omega)
  have SR := fun W => sRTT_any s1 n1 s2 n2 s3 n3 s4 n4 p q W BP BQ (by omega) (by omega) (by omega) (by omega)
  obtain ⟨o, ho⟩ : ∃ o, (x + y).tdiv 2 = o := ⟨_, rfl⟩
  obtain ⟨r, hr⟩ : ∃ r, max (p - q) 0 = r := ⟨_, rfl⟩
  rw [ho] at O SO
  rw [hr] at R SR
  have o2 := half_of _ _ ho
  have o0 : -4611686018427387904 ≤ o := by omega
  have o1 : o < 4611686018427387904 := by omega
  have r0 : 0 ≤ r := by omega
  have r1 : r < 9223372036854775808 := by omega
  have E := fun W => minError_any n1 (s1 + 62135596800) n2 (s2 + 62135596800) n3 (s3 + 62135596800) n4 (s4 + 62135596800) o r W O R o0 o1 r0 r1
  have hm := min_law x y o r ho (by rw [← hr, ex])
  have hm0 : 0 ≤ max (max o (-o) - r / 2) 0 := by omega
  obtain ⟨m, hmm⟩ : ∃ m, max (max o (-o) - r / 2) 0 = m := ⟨_, rfl⟩
  rw [hmm] at E hm hm0
  rw [← ea] at hm
  refine ⟨o, r, m, fun W => iOffset_any s1 n1 s2 n2 s3 n3 s4 n4 o W G1 G2 G3 G4 (fun W => zzoff_any n1 (s1 + 62135596800) n2 (s2 + 62135596800) n3 (s3 + 62135596800) n4 (s4 + 62135596800) o W O), SO, fun W => iRTT_any s1 n1 s2 n2 s3 n3 s4 n4 r W G1 G2 G3 G4 (fun W => zzrtt_any n1 (s1 + 62135596800) n2 (s2 + 62135596800) n3 (s3 + 62135596800) n4 (s4 + 62135596800) r W R), SR, fun W => iMin_any s1 n1 s2 n2 s3 n3 s4 n4 m W G1 G2 G3 G4 (fun W => zzmin_any n1 (s1 + 62135596800) n2 (s2 + 62135596800) n3 (s3 + 62135596800) n4 (s4 + 62135596800) m W E), fun W => sMin_any m s1 n1 s2 n2 s3 n3 s4 n4 a y W BA BY hm0 hm⟩

end Go.Proofs.Ytaanpoankljblaa.TmM
