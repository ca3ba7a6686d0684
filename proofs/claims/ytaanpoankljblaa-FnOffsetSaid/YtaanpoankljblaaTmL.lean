/- FnOffset: the four times laid into variables, in any order. -/
import Derived.Test.YtaanpoankljblaaOrdInv
import Derived.Test.YtaanpoankljblaaFar
import Derived.Test.YtaanpoankljblaaTmM
import Derived.Deep.RegionHeld3
import Derived.Test.YtaanpoankljblaaTmJ
import Derived.Test.YtaanpoankljblaaWorks
namespace Go.Proofs.Ytaanpoankljblaa.TmL
open Go.RowKit Go.Proofs.Ytaanpoankljblaa.RdA Go.Proofs.Ytaanpoankljblaa.FmtA Go.Proofs.Ytaanpoankljblaa.FmtB Go.Proofs.Ytaanpoankljblaa.RdF Go.Proofs.Ytaanpoankljblaa.RdD Go.Proofs.Ytaanpoankljblaa.TmA Go.Proofs.Ytaanpoankljblaa.TmB Go.Proofs.Ytaanpoankljblaa.TmD Go.Proofs.Ytaanpoankljblaa.TmE Go.Proofs.Ytaanpoankljblaa.TmH Go.Proofs.Ytaanpoankljblaa.TmI Go.Proofs.Ytaanpoankljblaa.TmJ Go.Proofs.Ytaanpoankljblaa.OrdInv
set_option linter.unusedVariables false
set_option linter.unusedSimpArgs false

/-- A variable of the law: made or not, filled or not. -/
def Var (W0 w : World) (made filled : Bool) (p : Value) (M : Array Value) : Prop :=
  made = true → ∃ g, p = .pointer (some ⟨g, 0, none⟩) ∧ W0.heap.size ≤ g ∧ w.heap[g]? = some (.cells (if filled = true then M else #[.int .i64 0, .int .i64 0]) 50 (0, 0))
theorem Var.below {W0 w w' : World} {m f : Bool} {p : Value} {M : Array Value} (h : Var W0 w m f p M) (hb : Below w.heap.size w w') : Var W0 w' m f p M := fun hm => by
  obtain ⟨g, e, h1, h2⟩ := h hm
  exact ⟨g, e, h1, (hb.block g (Array.getElem?_eq_some_iff.1 h2).1).trans h2⟩
theorem Var.other {W0 w : World} {m f : Bool} {p : Value} {M cs : Array Value} {g : Nat} (h : Var W0 w m f p M) (hn : m = true → p ≠ .pointer (some ⟨g, 0, none⟩)) : Var W0 (w.setRow g cs) m f p M := fun hm => by
  obtain ⟨k, e, h1, h2⟩ := h hm
  refine ⟨k, e, h1, (setRow_other w g k cs ?_).trans h2⟩
  intro hk
  subst hk
  exact hn hm e
theorem Var.old {W0 w : World} {m f : Bool} {p : Value} {M : Array Value} (h : Var W0 w m f p M) (hm : m = true) : p ≠ .pointer (some ⟨w.heap.size, 0, none⟩) := fun e => by
  obtain ⟨g, e1, _, h2⟩ := h hm
  rw [e1] at e
  have hg : g = w.heap.size := by simpa using e
  have := (Array.getElem?_eq_some_iff.1 h2).1
  omega

def Inv (W0 : World) (b1 b2 b3 b4 : Nat) (s1 n1 s2 n2 s3 n3 s4 n4 : Int) (L : Nat → Bool) (a : Act) (w : World) : Prop :=
  ∃ p1 p2 p3 p4 x1 y1 x2 y2 x3 y3 x4 y4 : Value, a = { tmps := #[.agg #[.int .i64 s1, .int .i64 n1], .agg #[.int .i64 s2, .int .i64 n2], .agg #[.int .i64 s3, .int .i64 n3], .agg #[.int .i64 s4, .int .i64 n4], .pointer (some ⟨b1, 0, none⟩), .pointer (some ⟨b2, 0, none⟩), .pointer (some ⟨b3, 0, none⟩), .pointer (some ⟨b4, 0, none⟩), .bool false, p1, p2, p3, p4, x1, y1, x2, y2, x3, y3, x4, y4, undef, undef, undef, undef, undef, undef, undef, undef, undef, undef, undef, undef, undef, undef, undef, undef, undef, undef, undef, undef, undef, undef, undef, undef, undef, undef, undef, undef, undef, undef, undef, undef, undef, undef, undef, undef, undef, undef, undef, undef, undef, undef, undef, undef, undef, undef, undef, undef, undef, undef, undef, undef, undef, undef, undef, undef, undef, undef, undef, undef, undef, undef, undef, undef, undef, undef], defers := [] } ∧ Below W0.heap.size W0 w ∧ (L 0 = true → x1 = .agg #[.int .i64 s1, .int .i64 n1]) ∧ (L 1 = true → y1 = .agg #[.int .i64 s1, .int .i64 n1]) ∧ (L 2 = true → x2 = .agg #[.int .i64 s2, .int .i64 n2]) ∧ (L 3 = true → y2 = .agg #[.int .i64 s2, .int .i64 n2]) ∧ (L 4 = true → x3 = .agg #[.int .i64 s3, .int .i64 n3]) ∧ (L 5 = true → y3 = .agg #[.int .i64 s3, .int .i64 n3]) ∧ (L 6 = true → x4 = .agg #[.int .i64 s4, .int .i64 n4]) ∧ (L 7 = true → y4 = .agg #[.int .i64 s4, .int .i64 n4]) ∧ Var W0 w (L 8) (L 12) p1 #[.int .i64 s1, .int .i64 n1] ∧ Var W0 w (L 9) (L 13) p2 #[.int .i64 s2, .int .i64 n2] ∧ Var W0 w (L 10) (L 14) p3 #[.int .i64 s3, .int .i64 n3] ∧ Var W0 w (L 11) (L 15) p4 #[.int .i64 s4, .int .i64 n4] ∧ (L 8 = true → L 9 = true → p1 ≠ p2) ∧ (L 8 = true → L 10 = true → p1 ≠ p3) ∧ (L 8 = true → L 11 = true → p1 ≠ p4) ∧ (L 9 = true → L 10 = true → p2 ≠ p3) ∧ (L 9 = true → L 11 = true → p2 ≠ p4) ∧ (L 10 = true → L 11 = true → p3 ≠ p4) ∧ (L 12 = true → L 8 = true) ∧ (L 13 = true → L 9 = true) ∧ (L 14 = true → L 10 = true) ∧ (L 15 = true → L 11 = true)

theorem dep_of {o : Oper} {L : Nat → Bool} (h : ∀ e ∈ o.after, Region.binds .any e = true → L e.on = true) (j : Nat) (hj : (o.after.any fun e => Region.binds .any e && e.on == j) = true) : L j = true := by
  obtain ⟨e, he, hb⟩ := Array.any_eq_true'.1 hj
  simp only [Bool.and_eq_true, beq_iff_eq] at hb
  have := h e he hb.1
  rwa [hb.2] at this

theorem keep16 {W w' : World} {p0 p1 p2 p3 p4 p5 p6 p7 p8 p9 p10 p11 p12 p13 p14 p15 : Addr} {v0 v1 v2 v3 v4 v5 v6 v7 v8 v9 v10 v11 v12 v13 v14 v15 : Value} (hb : Below W.heap.size W w') (h : W.cell? p0 = some v0 ∧ W.cell? p1 = some v1 ∧ W.cell? p2 = some v2 ∧ W.cell? p3 = some v3 ∧ W.cell? p4 = some v4 ∧ W.cell? p5 = some v5 ∧ W.cell? p6 = some v6 ∧ W.cell? p7 = some v7 ∧ W.cell? p8 = some v8 ∧ W.cell? p9 = some v9 ∧ W.cell? p10 = some v10 ∧ W.cell? p11 = some v11 ∧ W.cell? p12 = some v12 ∧ W.cell? p13 = some v13 ∧ W.cell? p14 = some v14 ∧ W.cell? p15 = some v15) : w'.cell? p0 = some v0 ∧ w'.cell? p1 = some v1 ∧ w'.cell? p2 = some v2 ∧ w'.cell? p3 = some v3 ∧ w'.cell? p4 = some v4 ∧ w'.cell? p5 = some v5 ∧ w'.cell? p6 = some v6 ∧ w'.cell? p7 = some v7 ∧ w'.cell? p8 = some v8 ∧ w'.cell? p9 = some v9 ∧ w'.cell? p10 = some v10 ∧ w'.cell? p11 = some v11 ∧ w'.cell? p12 = some v12 ∧ w'.cell? p13 = some v13 ∧ w'.cell? p14 = some v14 ∧ w'.cell? p15 = some v15 := ⟨keep_cell hb (h.1), keep_cell hb (h.2.1), keep_cell hb (h.2.2.1), keep_cell hb (h.2.2.2.1), keep_cell hb (h.2.2.2.2.1), keep_cell hb (h.2.2.2.2.2.1), keep_cell hb (h.2.2.2.2.2.2.1), keep_cell hb (h.2.2.2.2.2.2.2.1), keep_cell hb (h.2.2.2.2.2.2.2.2.1), keep_cell hb (h.2.2.2.2.2.2.2.2.2.1), keep_cell hb (h.2.2.2.2.2.2.2.2.2.2.1), keep_cell hb (h.2.2.2.2.2.2.2.2.2.2.2.1), keep_cell hb (h.2.2.2.2.2.2.2.2.2.2.2.2.1), keep_cell hb (h.2.2.2.2.2.2.2.2.2.2.2.2.2.1), keep_cell hb (h.2.2.2.2.2.2.2.2.2.2.2.2.2.2.1), keep_cell hb (h.2.2.2.2.2.2.2.2.2.2.2.2.2.2.2)⟩
theorem pl50_info : (Try.prog.info? 50).map (·.size) = some 2 := by kernel_rfl

set_option maxHeartbeats 6400000 in
set_option maxRecDepth 100000 in
theorem law (s1 n1 s2 n2 s3 n3 s4 n4 : Int) (w : World) :
    Calls Try.prog 7 #[.agg #[.int .i64 s1, .int .i64 n1], .agg #[.int .i64 s2, .int .i64 n2], .agg #[.int .i64 s3, .int .i64 n3], .agg #[.int .i64 s4, .int .i64 n4]] w fun e w' => e = .returned (.bool true) ∧ Below w.heap.size w w' := by
  go_enter Try.func7, Try.ntmps7
  go_wp2_with fail
  obtain ⟨W0, b1, b2, b3, b4, eW, e1, e2, e3, e4, K1, K2, K3, K4, HB⟩ := four w (.cells #[.int .i64 s1, .int .i64 n1] 49) (.cells #[.int .i64 s2, .int .i64 n2] 49) (.cells #[.int .i64 s3, .int .i64 n3] 49) (.cells #[.int .i64 s4, .int .i64 n4] 49)
  rw [← eW, ← e4, ← e3, ← e2, ← e1]
  clear eW e1 e2 e3 e4
  obtain ⟨c10, c11⟩ := pl_cells K1
  obtain ⟨c20, c21⟩ := pl_cells K2
  obtain ⟨c30, c31⟩ := pl_cells K3
  obtain ⟨c40, c41⟩ := pl_cells K4
  clear K1 K2 K3 K4
  have HB0 := Keep.mk HB
  clear HB
  refine wp_region_inv _ (by kernel_rfl) (Inv W0 b1 b2 b3 b4 s1 n1 s2 n2 s3 n3 s4 n4) (by kernel_rfl) ?init ?steps ?fin
  case init =>
    exact ⟨undef, undef, undef, undef, undef, undef, undef, undef, undef, undef, undef, undef, rfl, (Below.refl _ _).drew, (fun h => by cases h), (fun h => by cases h), (fun h => by cases h), (fun h => by cases h), (fun h => by cases h), (fun h => by cases h), (fun h => by cases h), (fun h => by cases h), (fun h => by cases h), (fun h => by cases h), (fun h => by cases h), (fun h => by cases h), (fun h => by cases h), (fun h => by cases h), (fun h => by cases h), (fun h => by cases h), (fun h => by cases h), (fun h => by cases h), (fun h => by cases h), (fun h => by cases h), (fun h => by cases h), (fun h => by cases h)⟩
  case steps =>
    refine ⟨?_, ?_, ?_, ?_, ?_, ?_, ?_, ?_, ?_, ?_, ?_, ?_, ?_, ?_, ?_, ?_, trivial⟩
    · intro L a w hI hk hdep
      obtain ⟨p1, p2, p3, p4, x1, y1, x2, y2, x3, y3, x4, y4, rfl, hB, ix1, iy1, ix2, iy2, ix3, iy3, ix4, iy4, v1, v2, v3, v4, d12, d13, d14, d23, d24, d34, f1, f2, f3, f4⟩ := hI
      have m0 := keep_cell hB c10
      have m1 := keep_cell hB c11
      have HX := Keep.mk (And.intro hB (And.intro v1 (And.intro v2 (And.intro v3 v4))))
      go_wp2_with fail
      exact ⟨p1, p2, p3, p4, .agg #[.int .i64 s1, .int .i64 n1], y1, x2, y2, x3, y3, x4, y4, rfl, hB, fun _ => rfl, iy1, ix2, iy2, ix3, iy3, ix4, iy4, v1, v2, v3, v4, d12, d13, d14, d23, d24, d34, f1, f2, f3, f4⟩
    · intro L a w hI hk hdep
      obtain ⟨p1, p2, p3, p4, x1, y1, x2, y2, x3, y3, x4, y4, rfl, hB, ix1, iy1, ix2, iy2, ix3, iy3, ix4, iy4, v1, v2, v3, v4, d12, d13, d14, d23, d24, d34, f1, f2, f3, f4⟩ := hI
      obtain rfl := ix1 (dep_of hdep 0 (by kernel_rfl))
      go_wp2_with fail
      refine (moment_any _ _ _).mono ?_
      rintro e w' ⟨rfl, rfl⟩
      have hb' : Below w.heap.size w ((w.alloc (.cells #[.int .i64 s1, .int .i64 n1] 49)).alloc (.cells #[.int .i64 s1, .int .i64 n1] 50)) := alc (alc (Below.refl _ _) _) _
      go_wp2_with fail
      exact ⟨p1, p2, p3, p4, .agg #[.int .i64 s1, .int .i64 n1], .agg #[.int .i64 s1, .int .i64 n1], x2, y2, x3, y3, x4, y4, rfl, nxt hB hb', fun _ => rfl, fun _ => rfl, ix2, iy2, ix3, iy3, ix4, iy4, v1.below hb', v2.below hb', v3.below hb', v4.below hb', d12, d13, d14, d23, d24, d34, f1, f2, f3, f4⟩
    · intro L a w hI hk hdep
      obtain ⟨p1, p2, p3, p4, x1, y1, x2, y2, x3, y3, x4, y4, rfl, hB, ix1, iy1, ix2, iy2, ix3, iy3, ix4, iy4, v1, v2, v3, v4, d12, d13, d14, d23, d24, d34, f1, f2, f3, f4⟩ := hI
      have m0 := keep_cell hB c20
      have m1 := keep_cell hB c21
      have HX := Keep.mk (And.intro hB (And.intro v1 (And.intro v2 (And.intro v3 v4))))
      go_wp2_with fail
      exact ⟨p1, p2, p3, p4, x1, y1, .agg #[.int .i64 s2, .int .i64 n2], y2, x3, y3, x4, y4, rfl, hB, ix1, iy1, fun _ => rfl, iy2, ix3, iy3, ix4, iy4, v1, v2, v3, v4, d12, d13, d14, d23, d24, d34, f1, f2, f3, f4⟩
    · intro L a w hI hk hdep
      obtain ⟨p1, p2, p3, p4, x1, y1, x2, y2, x3, y3, x4, y4, rfl, hB, ix1, iy1, ix2, iy2, ix3, iy3, ix4, iy4, v1, v2, v3, v4, d12, d13, d14, d23, d24, d34, f1, f2, f3, f4⟩ := hI
      obtain rfl := ix2 (dep_of hdep 2 (by kernel_rfl))
      go_wp2_with fail
      refine (moment_any _ _ _).mono ?_
      rintro e w' ⟨rfl, rfl⟩
      have hb' : Below w.heap.size w ((w.alloc (.cells #[.int .i64 s2, .int .i64 n2] 49)).alloc (.cells #[.int .i64 s2, .int .i64 n2] 50)) := alc (alc (Below.refl _ _) _) _
      go_wp2_with fail
      exact ⟨p1, p2, p3, p4, x1, y1, .agg #[.int .i64 s2, .int .i64 n2], .agg #[.int .i64 s2, .int .i64 n2], x3, y3, x4, y4, rfl, nxt hB hb', ix1, iy1, fun _ => rfl, fun _ => rfl, ix3, iy3, ix4, iy4, v1.below hb', v2.below hb', v3.below hb', v4.below hb', d12, d13, d14, d23, d24, d34, f1, f2, f3, f4⟩
    · intro L a w hI hk hdep
      obtain ⟨p1, p2, p3, p4, x1, y1, x2, y2, x3, y3, x4, y4, rfl, hB, ix1, iy1, ix2, iy2, ix3, iy3, ix4, iy4, v1, v2, v3, v4, d12, d13, d14, d23, d24, d34, f1, f2, f3, f4⟩ := hI
      have m0 := keep_cell hB c30
      have m1 := keep_cell hB c31
      have HX := Keep.mk (And.intro hB (And.intro v1 (And.intro v2 (And.intro v3 v4))))
      go_wp2_with fail
      exact ⟨p1, p2, p3, p4, x1, y1, x2, y2, .agg #[.int .i64 s3, .int .i64 n3], y3, x4, y4, rfl, hB, ix1, iy1, ix2, iy2, fun _ => rfl, iy3, ix4, iy4, v1, v2, v3, v4, d12, d13, d14, d23, d24, d34, f1, f2, f3, f4⟩
    · intro L a w hI hk hdep
      obtain ⟨p1, p2, p3, p4, x1, y1, x2, y2, x3, y3, x4, y4, rfl, hB, ix1, iy1, ix2, iy2, ix3, iy3, ix4, iy4, v1, v2, v3, v4, d12, d13, d14, d23, d24, d34, f1, f2, f3, f4⟩ := hI
      obtain rfl := ix3 (dep_of hdep 4 (by kernel_rfl))
      go_wp2_with fail
      refine (moment_any _ _ _).mono ?_
      rintro e w' ⟨rfl, rfl⟩
      have hb' : Below w.heap.size w ((w.alloc (.cells #[.int .i64 s3, .int .i64 n3] 49)).alloc (.cells #[.int .i64 s3, .int .i64 n3] 50)) := alc (alc (Below.refl _ _) _) _
      go_wp2_with fail
      exact ⟨p1, p2, p3, p4, x1, y1, x2, y2, .agg #[.int .i64 s3, .int .i64 n3], .agg #[.int .i64 s3, .int .i64 n3], x4, y4, rfl, nxt hB hb', ix1, iy1, ix2, iy2, fun _ => rfl, fun _ => rfl, ix4, iy4, v1.below hb', v2.below hb', v3.below hb', v4.below hb', d12, d13, d14, d23, d24, d34, f1, f2, f3, f4⟩
    · intro L a w hI hk hdep
      obtain ⟨p1, p2, p3, p4, x1, y1, x2, y2, x3, y3, x4, y4, rfl, hB, ix1, iy1, ix2, iy2, ix3, iy3, ix4, iy4, v1, v2, v3, v4, d12, d13, d14, d23, d24, d34, f1, f2, f3, f4⟩ := hI
      have m0 := keep_cell hB c40
      have m1 := keep_cell hB c41
      have HX := Keep.mk (And.intro hB (And.intro v1 (And.intro v2 (And.intro v3 v4))))
      go_wp2_with fail
      exact ⟨p1, p2, p3, p4, x1, y1, x2, y2, x3, y3, .agg #[.int .i64 s4, .int .i64 n4], y4, rfl, hB, ix1, iy1, ix2, iy2, ix3, iy3, fun _ => rfl, iy4, v1, v2, v3, v4, d12, d13, d14, d23, d24, d34, f1, f2, f3, f4⟩
    · intro L a w hI hk hdep
      obtain ⟨p1, p2, p3, p4, x1, y1, x2, y2, x3, y3, x4, y4, rfl, hB, ix1, iy1, ix2, iy2, ix3, iy3, ix4, iy4, v1, v2, v3, v4, d12, d13, d14, d23, d24, d34, f1, f2, f3, f4⟩ := hI
      obtain rfl := ix4 (dep_of hdep 6 (by kernel_rfl))
      go_wp2_with fail
      refine (moment_any _ _ _).mono ?_
      rintro e w' ⟨rfl, rfl⟩
      have hb' : Below w.heap.size w ((w.alloc (.cells #[.int .i64 s4, .int .i64 n4] 49)).alloc (.cells #[.int .i64 s4, .int .i64 n4] 50)) := alc (alc (Below.refl _ _) _) _
      go_wp2_with fail
      exact ⟨p1, p2, p3, p4, x1, y1, x2, y2, x3, y3, .agg #[.int .i64 s4, .int .i64 n4], .agg #[.int .i64 s4, .int .i64 n4], rfl, nxt hB hb', ix1, iy1, ix2, iy2, ix3, iy3, fun _ => rfl, fun _ => rfl, v1.below hb', v2.below hb', v3.below hb', v4.below hb', d12, d13, d14, d23, d24, d34, f1, f2, f3, f4⟩
    · intro L a w hI hk hdep
      obtain ⟨p1, p2, p3, p4, x1, y1, x2, y2, x3, y3, x4, y4, rfl, hB, ix1, iy1, ix2, iy2, ix3, iy3, ix4, iy4, v1, v2, v3, v4, d12, d13, d14, d23, d24, d34, f1, f2, f3, f4⟩ := hI
      have hst : L 12 = false := by
        cases h : L 12 with
        | false => rfl
        | true => rw [f1 h] at hk; cases hk
      have hb' : Below w.heap.size w (w.alloc (.cells #[.int .i64 0, .int .i64 0] 50)) := alc (Below.refl _ _) _
      go_wp2_with fail
      exact ⟨.pointer (some ⟨w.heap.size, 0, none⟩), p2, p3, p4, x1, y1, x2, y2, x3, y3, x4, y4, rfl, nxt hB hb', ix1, iy1, ix2, iy2, ix3, iy3, ix4, iy4, fun _ => ⟨w.heap.size, rfl, hB.size, by show (w.alloc _).heap[w.heap.size]? = some (.cells (if L 12 = true then #[.int .i64 s1, .int .i64 n1] else #[.int .i64 0, .int .i64 0]) 50 (0, 0)); rw [hst]; exact heap_alloc_new w _⟩, v2.below hb', v3.below hb', v4.below hb', fun _ h => (v2.old h).symm, fun _ h => (v3.old h).symm, fun _ h => (v4.old h).symm, d23, d24, d34, (fun _ => rfl), f2, f3, f4⟩
    · intro L a w hI hk hdep
      obtain ⟨p1, p2, p3, p4, x1, y1, x2, y2, x3, y3, x4, y4, rfl, hB, ix1, iy1, ix2, iy2, ix3, iy3, ix4, iy4, v1, v2, v3, v4, d12, d13, d14, d23, d24, d34, f1, f2, f3, f4⟩ := hI
      have hst : L 13 = false := by
        cases h : L 13 with
        | false => rfl
        | true => rw [f2 h] at hk; cases hk
      have hb' : Below w.heap.size w (w.alloc (.cells #[.int .i64 0, .int .i64 0] 50)) := alc (Below.refl _ _) _
      go_wp2_with fail
      exact ⟨p1, .pointer (some ⟨w.heap.size, 0, none⟩), p3, p4, x1, y1, x2, y2, x3, y3, x4, y4, rfl, nxt hB hb', ix1, iy1, ix2, iy2, ix3, iy3, ix4, iy4, v1.below hb', fun _ => ⟨w.heap.size, rfl, hB.size, by show (w.alloc _).heap[w.heap.size]? = some (.cells (if L 13 = true then #[.int .i64 s2, .int .i64 n2] else #[.int .i64 0, .int .i64 0]) 50 (0, 0)); rw [hst]; exact heap_alloc_new w _⟩, v3.below hb', v4.below hb', fun h _ => v1.old h, d13, d14, fun _ h => (v3.old h).symm, fun _ h => (v4.old h).symm, d34, f1, (fun _ => rfl), f3, f4⟩
    · intro L a w hI hk hdep
      obtain ⟨p1, p2, p3, p4, x1, y1, x2, y2, x3, y3, x4, y4, rfl, hB, ix1, iy1, ix2, iy2, ix3, iy3, ix4, iy4, v1, v2, v3, v4, d12, d13, d14, d23, d24, d34, f1, f2, f3, f4⟩ := hI
      have hst : L 14 = false := by
        cases h : L 14 with
        | false => rfl
        | true => rw [f3 h] at hk; cases hk
      have hb' : Below w.heap.size w (w.alloc (.cells #[.int .i64 0, .int .i64 0] 50)) := alc (Below.refl _ _) _
      go_wp2_with fail
      exact ⟨p1, p2, .pointer (some ⟨w.heap.size, 0, none⟩), p4, x1, y1, x2, y2, x3, y3, x4, y4, rfl, nxt hB hb', ix1, iy1, ix2, iy2, ix3, iy3, ix4, iy4, v1.below hb', v2.below hb', fun _ => ⟨w.heap.size, rfl, hB.size, by show (w.alloc _).heap[w.heap.size]? = some (.cells (if L 14 = true then #[.int .i64 s3, .int .i64 n3] else #[.int .i64 0, .int .i64 0]) 50 (0, 0)); rw [hst]; exact heap_alloc_new w _⟩, v4.below hb', d12, fun h _ => v1.old h, d14, fun h _ => v2.old h, d24, fun _ h => (v4.old h).symm, f1, f2, (fun _ => rfl), f4⟩
    · intro L a w hI hk hdep
      obtain ⟨p1, p2, p3, p4, x1, y1, x2, y2, x3, y3, x4, y4, rfl, hB, ix1, iy1, ix2, iy2, ix3, iy3, ix4, iy4, v1, v2, v3, v4, d12, d13, d14, d23, d24, d34, f1, f2, f3, f4⟩ := hI
      have hst : L 15 = false := by
        cases h : L 15 with
        | false => rfl
        | true => rw [f4 h] at hk; cases hk
      have hb' : Below w.heap.size w (w.alloc (.cells #[.int .i64 0, .int .i64 0] 50)) := alc (Below.refl _ _) _
      go_wp2_with fail
      exact ⟨p1, p2, p3, .pointer (some ⟨w.heap.size, 0, none⟩), x1, y1, x2, y2, x3, y3, x4, y4, rfl, nxt hB hb', ix1, iy1, ix2, iy2, ix3, iy3, ix4, iy4, v1.below hb', v2.below hb', v3.below hb', fun _ => ⟨w.heap.size, rfl, hB.size, by show (w.alloc _).heap[w.heap.size]? = some (.cells (if L 15 = true then #[.int .i64 s4, .int .i64 n4] else #[.int .i64 0, .int .i64 0]) 50 (0, 0)); rw [hst]; exact heap_alloc_new w _⟩, d12, d13, fun h _ => v1.old h, d23, fun h _ => v2.old h, fun h _ => v3.old h, f1, f2, f3, (fun _ => rfl)⟩
    · intro L a w hI hk hdep
      obtain ⟨p1, p2, p3, p4, x1, y1, x2, y2, x3, y3, x4, y4, rfl, hB, ix1, iy1, ix2, iy2, ix3, iy3, ix4, iy4, v1, v2, v3, v4, d12, d13, d14, d23, d24, d34, f1, f2, f3, f4⟩ := hI
      have hm : L 8 = true := dep_of hdep 8 (by kernel_rfl)
      obtain rfl := iy1 (dep_of hdep 1 (by kernel_rfl))
      obtain ⟨g, rfl, hg, hcell⟩ := v1 hm
      rw [hk] at hcell
      go_wp2_with (refine wpList_store_row rfl 50 (.tmp 9) (.tmp 14) rfl g #[.int .i64 s1, .int .i64 n1] rfl rfl 50 _ hcell pl50_info rfl (pl_one s1 n1) ?_)
      exact ⟨.pointer (some ⟨g, 0, none⟩), p2, p3, p4, x1, .agg #[.int .i64 s1, .int .i64 n1], x2, y2, x3, y3, x4, y4, rfl, below_setRow hB hg _, ix1, fun _ => rfl, ix2, iy2, ix3, iy3, ix4, iy4, fun _ => ⟨g, rfl, hg, setRow_heap w g _ #[.int .i64 s1, .int .i64 n1] 50 (0, 0) hcell⟩, v2.other (fun h e => d12 hm h e.symm), v3.other (fun h e => d13 hm h e.symm), v4.other (fun h e => d14 hm h e.symm), d12, d13, d14, d23, d24, d34, (fun _ => hm), f2, f3, f4⟩
    · intro L a w hI hk hdep
      obtain ⟨p1, p2, p3, p4, x1, y1, x2, y2, x3, y3, x4, y4, rfl, hB, ix1, iy1, ix2, iy2, ix3, iy3, ix4, iy4, v1, v2, v3, v4, d12, d13, d14, d23, d24, d34, f1, f2, f3, f4⟩ := hI
      have hm : L 9 = true := dep_of hdep 9 (by kernel_rfl)
      obtain rfl := iy2 (dep_of hdep 3 (by kernel_rfl))
      obtain ⟨g, rfl, hg, hcell⟩ := v2 hm
      rw [hk] at hcell
      go_wp2_with (refine wpList_store_row rfl 50 (.tmp 10) (.tmp 16) rfl g #[.int .i64 s2, .int .i64 n2] rfl rfl 50 _ hcell pl50_info rfl (pl_one s2 n2) ?_)
      exact ⟨p1, .pointer (some ⟨g, 0, none⟩), p3, p4, x1, y1, x2, .agg #[.int .i64 s2, .int .i64 n2], x3, y3, x4, y4, rfl, below_setRow hB hg _, ix1, iy1, ix2, fun _ => rfl, ix3, iy3, ix4, iy4, v1.other (fun h => d12 h hm), fun _ => ⟨g, rfl, hg, setRow_heap w g _ #[.int .i64 s2, .int .i64 n2] 50 (0, 0) hcell⟩, v3.other (fun h e => d23 hm h e.symm), v4.other (fun h e => d24 hm h e.symm), d12, d13, d14, d23, d24, d34, f1, (fun _ => hm), f3, f4⟩
    · intro L a w hI hk hdep
      obtain ⟨p1, p2, p3, p4, x1, y1, x2, y2, x3, y3, x4, y4, rfl, hB, ix1, iy1, ix2, iy2, ix3, iy3, ix4, iy4, v1, v2, v3, v4, d12, d13, d14, d23, d24, d34, f1, f2, f3, f4⟩ := hI
      have hm : L 10 = true := dep_of hdep 10 (by kernel_rfl)
      obtain rfl := iy3 (dep_of hdep 5 (by kernel_rfl))
      obtain ⟨g, rfl, hg, hcell⟩ := v3 hm
      rw [hk] at hcell
      go_wp2_with (refine wpList_store_row rfl 50 (.tmp 11) (.tmp 18) rfl g #[.int .i64 s3, .int .i64 n3] rfl rfl 50 _ hcell pl50_info rfl (pl_one s3 n3) ?_)
      exact ⟨p1, p2, .pointer (some ⟨g, 0, none⟩), p4, x1, y1, x2, y2, x3, .agg #[.int .i64 s3, .int .i64 n3], x4, y4, rfl, below_setRow hB hg _, ix1, iy1, ix2, iy2, ix3, fun _ => rfl, ix4, iy4, v1.other (fun h => d13 h hm), v2.other (fun h => d23 h hm), fun _ => ⟨g, rfl, hg, setRow_heap w g _ #[.int .i64 s3, .int .i64 n3] 50 (0, 0) hcell⟩, v4.other (fun h e => d34 hm h e.symm), d12, d13, d14, d23, d24, d34, f1, f2, (fun _ => hm), f4⟩
    · intro L a w hI hk hdep
      obtain ⟨p1, p2, p3, p4, x1, y1, x2, y2, x3, y3, x4, y4, rfl, hB, ix1, iy1, ix2, iy2, ix3, iy3, ix4, iy4, v1, v2, v3, v4, d12, d13, d14, d23, d24, d34, f1, f2, f3, f4⟩ := hI
      have hm : L 11 = true := dep_of hdep 11 (by kernel_rfl)
      obtain rfl := iy4 (dep_of hdep 7 (by kernel_rfl))
      obtain ⟨g, rfl, hg, hcell⟩ := v4 hm
      rw [hk] at hcell
      go_wp2_with (refine wpList_store_row rfl 50 (.tmp 12) (.tmp 20) rfl g #[.int .i64 s4, .int .i64 n4] rfl rfl 50 _ hcell pl50_info rfl (pl_one s4 n4) ?_)
      exact ⟨p1, p2, p3, .pointer (some ⟨g, 0, none⟩), x1, y1, x2, y2, x3, y3, x4, .agg #[.int .i64 s4, .int .i64 n4], rfl, below_setRow hB hg _, ix1, iy1, ix2, iy2, ix3, iy3, ix4, fun _ => rfl, v1.other (fun h => d14 h hm), v2.other (fun h => d24 h hm), v3.other (fun h => d34 h hm), fun _ => ⟨g, rfl, hg, setRow_heap w g _ #[.int .i64 s4, .int .i64 n4] 50 (0, 0) hcell⟩, d12, d13, d14, d23, d24, d34, f1, f2, f3, (fun _ => hm)⟩
  case fin =>
    intro L a w5 hI hall
    obtain ⟨p1, p2, p3, p4, x1, y1, x2, y2, x3, y3, x4, y4, rfl, hB, ix1, iy1, ix2, iy2, ix3, iy3, ix4, iy4, v1, v2, v3, v4, d12, d13, d14, d23, d24, d34, f1, f2, f3, f4⟩ := hI
    obtain rfl := ix1 (hall 0 (by simp))
    obtain rfl := iy1 (hall 1 (by simp))
    obtain ⟨g1, rfl, l1, q1⟩ := v1 (hall 8 (by simp))
    rw [if_pos (hall 12 (by simp))] at q1
    obtain ⟨u10, u11⟩ := pl_cells q1
    replace c10 := keep_cell hB c10
    replace c11 := keep_cell hB c11
    obtain rfl := ix2 (hall 2 (by simp))
    obtain rfl := iy2 (hall 3 (by simp))
    obtain ⟨g2, rfl, l2, q2⟩ := v2 (hall 9 (by simp))
    rw [if_pos (hall 13 (by simp))] at q2
    obtain ⟨u20, u21⟩ := pl_cells q2
    replace c20 := keep_cell hB c20
    replace c21 := keep_cell hB c21
    obtain rfl := ix3 (hall 4 (by simp))
    obtain rfl := iy3 (hall 5 (by simp))
    obtain ⟨g3, rfl, l3, q3⟩ := v3 (hall 10 (by simp))
    rw [if_pos (hall 14 (by simp))] at q3
    obtain ⟨u30, u31⟩ := pl_cells q3
    replace c30 := keep_cell hB c30
    replace c31 := keep_cell hB c31
    obtain rfl := ix4 (hall 6 (by simp))
    obtain rfl := iy4 (hall 7 (by simp))
    obtain ⟨g4, rfl, l4, q4⟩ := v4 (hall 11 (by simp))
    rw [if_pos (hall 15 (by simp))] at q4
    obtain ⟨u40, u41⟩ := pl_cells q4
    replace c40 := keep_cell hB c40
    replace c41 := keep_cell hB c41
    have HB5 := Keep.mk (nxt HB0.out hB)
    clear hall hB HB0 ix1 iy1 v1 f1 l1 q1 ix2 iy2 v2 f2 l2 q2 ix3 iy3 v3 f3 l3 q3 ix4 iy4 v4 f4 l4 q4 d12 d13 d14 d23 d24 d34
    have z1 : g1 < w5.heap.size := cell_lies u10
    have z11 : g1 < w5.heap.size + 1 := by omega
    have z12 : g1 < w5.heap.size + 1 + 1 := by omega
    have z13 : g1 < w5.heap.size + 1 + 1 + 1 := by omega
    have z14 : g1 < w5.heap.size + 1 + 1 + 1 + 1 := by omega
    have z15 : g1 < w5.heap.size + 1 + 1 + 1 + 1 + 1 := by omega
    have z2 : g2 < w5.heap.size := cell_lies u20
    have z21 : g2 < w5.heap.size + 1 := by omega
    have z22 : g2 < w5.heap.size + 1 + 1 := by omega
    have z23 : g2 < w5.heap.size + 1 + 1 + 1 := by omega
    have z24 : g2 < w5.heap.size + 1 + 1 + 1 + 1 := by omega
    have z25 : g2 < w5.heap.size + 1 + 1 + 1 + 1 + 1 := by omega
    have z3 : g3 < w5.heap.size := cell_lies u30
    have z31 : g3 < w5.heap.size + 1 := by omega
    have z32 : g3 < w5.heap.size + 1 + 1 := by omega
    have z33 : g3 < w5.heap.size + 1 + 1 + 1 := by omega
    have z34 : g3 < w5.heap.size + 1 + 1 + 1 + 1 := by omega
    have z35 : g3 < w5.heap.size + 1 + 1 + 1 + 1 + 1 := by omega
    have z4 : g4 < w5.heap.size := cell_lies u40
    have z41 : g4 < w5.heap.size + 1 := by omega
    have z42 : g4 < w5.heap.size + 1 + 1 := by omega
    have z43 : g4 < w5.heap.size + 1 + 1 + 1 := by omega
    have z44 : g4 < w5.heap.size + 1 + 1 + 1 + 1 := by omega
    have z45 : g4 < w5.heap.size + 1 + 1 + 1 + 1 + 1 := by omega
    by_cases r1 : RightB s1 n1
    rotate_left
    · have HR1 := Keep.mk r1
      clear r1
      go_wp2_with fail
      refine (right_no s1 n1 _ HR1.out).mono ?_
      rintro e w6 ⟨rfl, rfl⟩
      go_wp2_with fail
      refine (Works.works_any _).mono ?_
      rintro e w9 ⟨rfl, hb9⟩
      have HB9 : Keep (Below w.heap.size w w9) := ⟨nxt (by repeat (first | exact HB5.out | (refine alc ?_ _))) hb9⟩
      clear hb9
      go_wp2_with fail
      go_ret
      exact ⟨rfl, HB9.out⟩
    have HR1 := Keep.mk r1
    clear r1
    by_cases r2 : RightB s2 n2
    rotate_left
    · have HR2 := Keep.mk r2
      clear r2
      go_wp2_with fail
      refine (right_yes s1 n1 _ HR1.out).mono ?_
      rintro e w6 ⟨rfl, rfl⟩
      go_wp2_with fail
      refine (right_no s2 n2 _ HR2.out).mono ?_
      rintro e w6 ⟨rfl, rfl⟩
      go_wp2_with fail
      refine (Works.works_any _).mono ?_
      rintro e w9 ⟨rfl, hb9⟩
      have HB9 : Keep (Below w.heap.size w w9) := ⟨nxt (by repeat (first | exact HB5.out | (refine alc ?_ _))) hb9⟩
      clear hb9
      go_wp2_with fail
      go_ret
      exact ⟨rfl, HB9.out⟩
    have HR2 := Keep.mk r2
    clear r2
    by_cases r3 : RightB s3 n3
    rotate_left
    · have HR3 := Keep.mk r3
      clear r3
      go_wp2_with fail
      refine (right_yes s1 n1 _ HR1.out).mono ?_
      rintro e w6 ⟨rfl, rfl⟩
      go_wp2_with fail
      refine (right_yes s2 n2 _ HR2.out).mono ?_
      rintro e w6 ⟨rfl, rfl⟩
      go_wp2_with fail
      refine (right_no s3 n3 _ HR3.out).mono ?_
      rintro e w6 ⟨rfl, rfl⟩
      go_wp2_with fail
      refine (Works.works_any _).mono ?_
      rintro e w9 ⟨rfl, hb9⟩
      have HB9 : Keep (Below w.heap.size w w9) := ⟨nxt (by repeat (first | exact HB5.out | (refine alc ?_ _))) hb9⟩
      clear hb9
      go_wp2_with fail
      go_ret
      exact ⟨rfl, HB9.out⟩
    have HR3 := Keep.mk r3
    clear r3
    by_cases r4 : RightB s4 n4
    rotate_left
    · have HR4 := Keep.mk r4
      clear r4
      go_wp2_with fail
      refine (right_yes s1 n1 _ HR1.out).mono ?_
      rintro e w6 ⟨rfl, rfl⟩
      go_wp2_with fail
      refine (right_yes s2 n2 _ HR2.out).mono ?_
      rintro e w6 ⟨rfl, rfl⟩
      go_wp2_with fail
      refine (right_yes s3 n3 _ HR3.out).mono ?_
      rintro e w6 ⟨rfl, rfl⟩
      go_wp2_with fail
      refine (right_no s4 n4 _ HR4.out).mono ?_
      rintro e w6 ⟨rfl, rfl⟩
      go_wp2_with fail
      refine (Works.works_any _).mono ?_
      rintro e w9 ⟨rfl, hb9⟩
      have HB9 : Keep (Below w.heap.size w w9) := ⟨nxt (by repeat (first | exact HB5.out | (refine alc ?_ _))) hb9⟩
      clear hb9
      go_wp2_with fail
      go_ret
      exact ⟨rfl, HB9.out⟩
    have HR4 := Keep.mk r4
    clear r4
    go_wp2_with fail
    refine (right_yes s1 n1 _ HR1.out).mono ?_
    rintro e w6 ⟨rfl, rfl⟩
    go_wp2_with fail
    refine (right_yes s2 n2 _ HR2.out).mono ?_
    rintro e w6 ⟨rfl, rfl⟩
    go_wp2_with fail
    refine (right_yes s3 n3 _ HR3.out).mono ?_
    rintro e w6 ⟨rfl, rfl⟩
    go_wp2_with fail
    refine (right_yes s4 n4 _ HR4.out).mono ?_
    rintro e w6 ⟨rfl, rfl⟩
    go_wp2_with fail
    obtain ⟨rn10, rn11, rs10, rs11⟩ := HR1.out
    obtain ⟨rn20, rn21, rs20, rs21⟩ := HR2.out
    obtain ⟨rn30, rn31, rs30, rs31⟩ := HR3.out
    obtain ⟨rn40, rn41, rs40, rs41⟩ := HR4.out
    refine (Far.far_any _ s1 n1 s2 n2 s3 n3 s4 n4 _ (alloc_at (by simp)) (by omega) (by omega) (by omega) (by omega) (by omega) (by omega) (by omega) (by omega)).mono ?_
    rintro e w7 ⟨b, rfl, hcl, hb7⟩
    have HB7 : Keep (Below w.heap.size w w7) := ⟨nxt (by repeat (first | exact HB5.out | (refine alc ?_ _))) hb7⟩
    have hb57 : Below w5.heap.size w5 w7 := nxt (by repeat (first | exact Below.refl _ _ | (refine alc ?_ _))) hb7
    replace c10 := keep_cell hb57 c10
    replace c11 := keep_cell hb57 c11
    replace u10 := keep_cell hb57 u10
    replace u11 := keep_cell hb57 u11
    replace c20 := keep_cell hb57 c20
    replace c21 := keep_cell hb57 c21
    replace u20 := keep_cell hb57 u20
    replace u21 := keep_cell hb57 u21
    replace c30 := keep_cell hb57 c30
    replace c31 := keep_cell hb57 c31
    replace u30 := keep_cell hb57 u30
    replace u31 := keep_cell hb57 u31
    replace c40 := keep_cell hb57 c40
    replace c41 := keep_cell hb57 c41
    replace u40 := keep_cell hb57 u40
    replace u41 := keep_cell hb57 u41
    clear hb7 hb57 HB5 z1 z11 z12 z13 z14 z15 z2 z21 z22 z23 z24 z25 z3 z31 z32 z33 z34 z35 z4 z41 z42 z43 z44 z45
    cases b with
    | true =>
      clear hcl
      go_wp2_with fail
      refine (Works.works_any _).mono ?_
      rintro e w9 ⟨rfl, hb9⟩
      have HB9 : Keep (Below w.heap.size w w9) := ⟨nxt (by repeat (first | exact HB7.out | (refine alc ?_ _))) hb9⟩
      clear hb9
      go_wp2_with fail
      go_ret
      exact ⟨rfl, HB9.out⟩
    | false =>
      have hcl := hcl rfl
      unfold Far.Close at hcl
      obtain ⟨j1, j2, j3, j4, j5, j6, j7, j8, j9, j10, j11, j12⟩ := hcl
      obtain ⟨o, r, m, H29, H30, H31, H32, H34, H33⟩ := TmM.all s1 n1 s2 n2 s3 n3 s4 n4 rn10 rn11 rs10 rs11 rn20 rn21 rs20 rs21 rn30 rn31 rs30 rs31 rn40 rn41 rs40 rs41 j1 j2 j3 j4 j5 j6 j7 j8 j9 j10 j11 j12
      have HZ := fun W => Works.works_any W
      clear rn10 rn11 rs10 rs11 rn20 rn21 rs20 rs21 rn30 rn31 rs30 rs31 rn40 rn41 rs40 rs41 j1 j2 j3 j4 j5 j6 j7 j8 j9 j10 j11 j12 HR1 HR2 HR3 HR4
      go_wp2_with fail
      go_region_held3 (fun w' => w'.cell? ⟨b1, 0, none⟩ = some (.int .i64 s1) ∧ w'.cell? ⟨b1, 1, none⟩ = some (.int .i64 n1) ∧ w'.cell? ⟨b2, 0, none⟩ = some (.int .i64 s2) ∧ w'.cell? ⟨b2, 1, none⟩ = some (.int .i64 n2) ∧ w'.cell? ⟨b3, 0, none⟩ = some (.int .i64 s3) ∧ w'.cell? ⟨b3, 1, none⟩ = some (.int .i64 n3) ∧ w'.cell? ⟨b4, 0, none⟩ = some (.int .i64 s4) ∧ w'.cell? ⟨b4, 1, none⟩ = some (.int .i64 n4) ∧ w'.cell? ⟨g1, 0, none⟩ = some (.int .i64 s1) ∧ w'.cell? ⟨g1, 1, none⟩ = some (.int .i64 n1) ∧ w'.cell? ⟨g2, 0, none⟩ = some (.int .i64 s2) ∧ w'.cell? ⟨g2, 1, none⟩ = some (.int .i64 n2) ∧ w'.cell? ⟨g3, 0, none⟩ = some (.int .i64 s3) ∧ w'.cell? ⟨g3, 1, none⟩ = some (.int .i64 n3) ∧ w'.cell? ⟨g4, 0, none⟩ = some (.int .i64 s4) ∧ w'.cell? ⟨g4, 1, none⟩ = some (.int .i64 n4)) ((first | assumption | exact ⟨c10, c11, c20, c21, c30, c31, c40, c41, u10, u11, u20, u21, u30, u31, u40, u41⟩ | exact keep16 hb ⟨c10, c11, c20, c21, c30, c31, c40, c41, u10, u11, u20, u21, u30, u31, u40, u41⟩ | exact keep16 hb (by assumption)))
        (first | (go_at_call 29; with_reducible refine (H29 _).mono ?_; rintro e w2 ⟨rfl, hb⟩) | (go_at_call 30; with_reducible refine (H30 _).mono ?_; rintro e w2 ⟨rfl, hb⟩) | (go_at_call 31; with_reducible refine (H31 _).mono ?_; rintro e w2 ⟨rfl, hb⟩) | (go_at_call 32; with_reducible refine (H32 _).mono ?_; rintro e w2 ⟨rfl, hb⟩) | (go_at_call 34; with_reducible refine (H34 _).mono ?_; rintro e w2 ⟨rfl, hb⟩) | (go_at_call 33; with_reducible refine (H33 _).mono ?_; rintro e w2 ⟨rfl, hb⟩) | (go_at_call 13; with_reducible refine (HZ _).mono ?_; rintro e w2 ⟨rfl, hb⟩))
      all_goals
        go_ways
        go_wp2_with fail
        go_ret
        exact ⟨rfl, nxt (nxt (nxt (nxt (nxt (nxt (nxt HB7.out (undrew (by assumption))) (by assumption)) (by assumption)) (by assumption)) (by assumption)) (by assumption)) hb⟩

end Go.Proofs.Ytaanpoankljblaa.TmL
