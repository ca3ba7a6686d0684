-- PRINTED BY print.sh 35421559b90ae4d0a3588c463048766b98c2df88dd9212a6774a882060cdf62d: not written by this session
import Derived.Test.YtaanpoankljblaaPFnDurationsx0
import Derived.Test.YtaanpoankljblaaPFnDurationsx1
namespace Go.Proofs.Ytaanpoankljblaa.PFnDurations
open Go.RowKit Go.Proofs.YtaanpoankljblaaW.PrintWords Go.Proofs.YtaanpoankljblaaW.PrintLast Go.Proofs.YtaanpoankljblaaW.PrintMore
attribute [local go_sem] max2_int min2_int max_two min_two max_three min_three max_four min_four   -- for this text's walks alone
set_option linter.unusedVariables false
set_option linter.unusedSimpArgs false

/-! ### laws_FnDurations: function 4 -/
mutual
def laws_FnDurations.j0 : Nat → Int → Bool → Option (Bool)
  | 0, _, _ => none
  | k + 1, x2, x41 => if x41 = true then (some false) else (if x2 ≥ (-127) then (laws_FnDurations.j1 k x2 (decide (x2 ≤ 127))) else (laws_FnDurations.j1 k x2 false))
def laws_FnDurations.j1 : Nat → Int → Bool → Option (Bool)
  | 0, _, _ => none
  | k + 1, x2, x47 => if x47 = true then ((spec_Power.f k x2).bind fun bt120 => (if bt120.2 = true then ((impl_Interval.f k x2).bind fun t122 => (if t122 = bt120.1 then ((laws_works.f k).bind fun t123 => (some t123)) else (some false))) else ((laws_works.f k).bind fun t124 => (some t124)))) else ((laws_works.f k).bind fun t125 => (some t125))
end
def laws_FnDurations.f (k : Nat) (a0 : Int) (a1 : Int) (a2 : Int) : Option (Bool) := if a0 ≥ 4611686018427387904 then ((laws_works.f k).bind fun t113 => (some t113)) else ((spec_Fraction.f ((a0) % 4294967296)).bind fun t114 => ((spec_Fraction.f ((a1 * 65536) % 4294967296)).bind fun t115 => ((impl_Duration.f a0).bind fun t116 => ((spec_Near.f t116 (wrap64 ((wrap64 ((wrap64 (a0 / 4294967296)) * 1000000000)) + t114))).bind fun t117 => (if t117 = true then ((impl_Short.f a1).bind fun t118 => ((spec_Near.f t118 (wrap64 ((wrap64 ((wrap64 (a1 / 65536)) * 1000000000)) + t115))).bind fun t119 => (laws_FnDurations.j0 k a2 (!t119)))) else (laws_FnDurations.j0 k a2 true))))))
theorem laws_FnDurations.mono_l : ∀ k, (∀ y0 y1, LeO (laws_FnDurations.j0 k y0 y1) (laws_FnDurations.j0 (k + 1) y0 y1)) ∧ (∀ y0 y1, LeO (laws_FnDurations.j1 k y0 y1) (laws_FnDurations.j1 (k + 1) y0 y1))
  | 0 => ⟨fun _ _ r h => by simp [laws_FnDurations.j0] at h, fun _ _ r h => by simp [laws_FnDurations.j1] at h⟩
  | k + 1 => by
    obtain ⟨ih0, ih1⟩ := laws_FnDurations.mono_l k
    refine ⟨?_, ?_⟩
    · intro y0 y1
      unfold laws_FnDurations.j0
      repeat' first
      | (with_reducible exact ih0 _ _)
      | (with_reducible exact ih1 _ _)
      | (with_reducible exact impl_Interval.mono _ _)
      | (with_reducible exact laws_works.mono _)
      | (with_reducible exact spec_Power.mono _ _)
      | (with_reducible exact LeO.refl _)
      | (with_reducible exact LeO.none _)
      | (with_reducible refine LeO.ite ?_ ?_)
      | (with_reducible refine LeO.bind ?_ (fun _ => ?_))
      | exact ih0 _ _
      | exact ih1 _ _
      | exact impl_Interval.mono _ _
      | exact laws_works.mono _
      | exact spec_Power.mono _ _
      | exact LeO.none _
      | refine LeO.ite ?_ ?_
      | refine LeO.bind ?_ (fun _ => ?_)
    · intro y0 y1
      unfold laws_FnDurations.j1
      repeat' first
      | (with_reducible exact ih0 _ _)
      | (with_reducible exact ih1 _ _)
      | (with_reducible exact impl_Interval.mono _ _)
      | (with_reducible exact laws_works.mono _)
      | (with_reducible exact spec_Power.mono _ _)
      | (with_reducible exact LeO.refl _)
      | (with_reducible exact LeO.none _)
      | (with_reducible refine LeO.ite ?_ ?_)
      | (with_reducible refine LeO.bind ?_ (fun _ => ?_))
      | exact ih0 _ _
      | exact ih1 _ _
      | exact impl_Interval.mono _ _
      | exact laws_works.mono _
      | exact spec_Power.mono _ _
      | exact LeO.none _
      | refine LeO.ite ?_ ?_
      | refine LeO.bind ?_ (fun _ => ?_)
theorem laws_FnDurations.mono : ∀ a0 a1 a2 k, LeO (laws_FnDurations.f k a0 a1 a2) (laws_FnDurations.f (k + 1) a0 a1 a2) := by
  intro a0 a1 a2 k
  obtain ⟨ih0, ih1⟩ := laws_FnDurations.mono_l k
  unfold laws_FnDurations.f
  repeat' first
      | (with_reducible exact ih0 _ _)
      | (with_reducible exact ih1 _ _)
      | (with_reducible exact impl_Interval.mono _ _)
      | (with_reducible exact laws_works.mono _)
      | (with_reducible exact spec_Power.mono _ _)
      | (with_reducible exact LeO.refl _)
      | (with_reducible exact LeO.none _)
      | (with_reducible refine LeO.ite ?_ ?_)
      | (with_reducible refine LeO.bind ?_ (fun _ => ?_))
      | exact ih0 _ _
      | exact ih1 _ _
      | exact impl_Interval.mono _ _
      | exact laws_works.mono _
      | exact spec_Power.mono _ _
      | exact LeO.none _
      | refine LeO.ite ?_ ?_
      | refine LeO.bind ?_ (fun _ => ?_)
set_option maxHeartbeats 8000000 in
set_option maxRecDepth 100000 in
theorem laws_FnDurations.calls (k : Nat) (a0 : Int) (a1 : Int) (a2 : Int) (r : Bool) (w : World) (h : laws_FnDurations.f k a0 a1 a2 = some r) :
    Calls Try.prog 4 #[.int .u64 a0, .int .u32 a1, .int .i64 a2] w fun e w' => e = .returned (.bool r) ∧ Below w.heap.size w w' := by
  have HB := Aside0.mk (Below.refl w.heap.size w)
  have H : (if a0 ≥ 4611686018427387904 then ((laws_works.f k).bind fun t113 => (some t113)) else ((spec_Fraction.f ((a0) % 4294967296)).bind fun t114 => ((spec_Fraction.f ((a1 * 65536) % 4294967296)).bind fun t115 => ((impl_Duration.f a0).bind fun t116 => ((spec_Near.f t116 (wrap64 ((wrap64 ((wrap64 (a0 / 4294967296)) * 1000000000)) + t114))).bind fun t117 => (if t117 = true then ((impl_Short.f a1).bind fun t118 => ((spec_Near.f t118 (wrap64 ((wrap64 ((wrap64 (a1 / 65536)) * 1000000000)) + t115))).bind fun t119 => (laws_FnDurations.j0 k a2 (!t119)))) else (laws_FnDurations.j0 k a2 true))))))) = some r := h
  clear h
  by_cases c4 : a0 ≥ 4611686018427387904
  · rw [if_pos c4] at H
    have c4b0 : decide (4611686018427387904 ≤ a0) = true := decide_eq_true c4
    clear c4
    replace H := Option.bind_eq_some_iff.mp H
    obtain ⟨t113, A50, H⟩ := H
    replace H : (some t113) = some r := H
    have A5 := Aside0.mk A50
    clear A50
    obtain rfl := Option.some.inj H
    go_enter Try.func4, Try.ntmps4
    go_wp2_with (first | ((with_reducible refine gate_callee (f := 13) rfl ?_); refine goesL_ (some 13) rfl rfl Try.func13 (by kernel_rfl) rfl #[] rfl (by (try simp only [List.map_toArray, List.map_cons, List.map_nil]); first | done | rfl | (simp only [List.length_drop, List.length_take]; rfl)) ?_; (with_reducible refine (laws_works.calls k  t113 _ A5.out).mono ?_); rintro e w6 ⟨rfl, hb⟩; refine ⟨_, rfl, ?_⟩; have n0_ := Aside0.mk (below_step (by repeat (first | (with_reducible first | exact HB.out | apply below_alloc | apply pw_below_drewN | apply below_drew1) | exact HB.out)) hb); clear HB; have HB := n0_; clear n0_; (try clear hb); (try clear hb2); (try clear hk); (try clear hi)))
    go_ret
    exact ⟨by first | rfl | (simp [errW_none, errW_some] <;> rfl) | (simp [*, errW_none, errW_some] <;> rfl), by repeat (first | (with_reducible first | exact HB.out | apply below_alloc | apply pw_below_drewN | apply below_drew1) | exact HB.out)⟩
  · rw [if_neg c4] at H
    have c4b0 : decide (4611686018427387904 ≤ a0) = false := decide_eq_false c4
    clear c4
    replace H := Option.bind_eq_some_iff.mp H
    obtain ⟨t114, A70, H⟩ := H
    replace H : ((spec_Fraction.f ((a1 * 65536) % 4294967296)).bind fun t115 => ((impl_Duration.f a0).bind fun t116 => ((spec_Near.f t116 (wrap64 ((wrap64 ((wrap64 (a0 / 4294967296)) * 1000000000)) + t114))).bind fun t117 => (if t117 = true then ((impl_Short.f a1).bind fun t118 => ((spec_Near.f t118 (wrap64 ((wrap64 ((wrap64 (a1 / 65536)) * 1000000000)) + t115))).bind fun t119 => (laws_FnDurations.j0 k a2 (!t119)))) else (laws_FnDurations.j0 k a2 true))))) = some r := H
    have A7 := Aside0.mk A70
    clear A70
    replace H := Option.bind_eq_some_iff.mp H
    obtain ⟨t115, A80, H⟩ := H
    replace H : ((impl_Duration.f a0).bind fun t116 => ((spec_Near.f t116 (wrap64 ((wrap64 ((wrap64 (a0 / 4294967296)) * 1000000000)) + t114))).bind fun t117 => (if t117 = true then ((impl_Short.f a1).bind fun t118 => ((spec_Near.f t118 (wrap64 ((wrap64 ((wrap64 (a1 / 65536)) * 1000000000)) + t115))).bind fun t119 => (laws_FnDurations.j0 k a2 (!t119)))) else (laws_FnDurations.j0 k a2 true)))) = some r := H
    have A8 := Aside0.mk A80
    clear A80
    have HC9 := Aside0.mk H
    clear H
    go_enter Try.func4, Try.ntmps4
    go_upto_region 5 with (first | ((with_reducible refine gate_callee (f := 14) rfl ?_); refine goesL_ (some 20) rfl rfl Try.func14 (by kernel_rfl) rfl #[.int .u32 ((a0) % 4294967296)] rfl (by (try simp only [List.map_toArray, List.map_cons, List.map_nil]); first | done | rfl | (simp only [List.length_drop, List.length_take]; rfl)) ?_; (with_reducible refine (spec_Fraction.calls ((a0) % 4294967296) t114 _ A7.out).mono ?_); rintro e w' ⟨rfl, ⟨nd, rfl⟩⟩; refine ⟨_, rfl, ?_⟩) | ((with_reducible refine gate_callee (f := 14) rfl ?_); refine goesL_ (some 28) rfl rfl Try.func14 (by kernel_rfl) rfl #[.int .u32 ((a1 * 65536) % 4294967296)] rfl (by (try simp only [List.map_toArray, List.map_cons, List.map_nil]); first | done | rfl | (simp only [List.length_drop, List.length_take]; rfl)) ?_; (with_reducible refine (spec_Fraction.calls ((a1 * 65536) % 4294967296) t115 _ A8.out).mono ?_); rintro e w' ⟨rfl, ⟨nd, rfl⟩⟩; refine ⟨_, rfl, ?_⟩))
    (try simp only [Act.put, List.setIfInBounds_toArray, List.set_cons_zero, List.set_cons_succ])
    go_cut [41] (fun v41 wc => ∃ (kq : Nat) (x41_8 : Bool), v41 = .bool x41_8 ∧ Aside0 (laws_FnDurations.j0 kq a2 x41_8 = some r) ∧ Aside0 (kq ≤ k) ∧ Aside0 (Below w.heap.size w wc))
    case first =>
      have H := HC9.out
      clear HC9
      replace H := Option.bind_eq_some_iff.mp H
      obtain ⟨t116, A100, H⟩ := H
      replace H : ((spec_Near.f t116 (wrap64 ((wrap64 ((wrap64 (a0 / 4294967296)) * 1000000000)) + t114))).bind fun t117 => (if t117 = true then ((impl_Short.f a1).bind fun t118 => ((spec_Near.f t118 (wrap64 ((wrap64 ((wrap64 (a1 / 65536)) * 1000000000)) + t115))).bind fun t119 => (laws_FnDurations.j0 k a2 (!t119)))) else (laws_FnDurations.j0 k a2 true))) = some r := H
      have A10 := Aside0.mk A100
      clear A100
      replace H := Option.bind_eq_some_iff.mp H
      obtain ⟨t117, A110, H⟩ := H
      replace H : (if t117 = true then ((impl_Short.f a1).bind fun t118 => ((spec_Near.f t118 (wrap64 ((wrap64 ((wrap64 (a1 / 65536)) * 1000000000)) + t115))).bind fun t119 => (laws_FnDurations.j0 k a2 (!t119)))) else (laws_FnDurations.j0 k a2 true)) = some r := H
      have A11 := Aside0.mk A110
      clear A110
      by_cases c12 : t117 = true
      · subst c12
        have H1 : ((impl_Short.f a1).bind fun t118 => ((spec_Near.f t118 (wrap64 ((wrap64 ((wrap64 (a1 / 65536)) * 1000000000)) + t115))).bind fun t119 => (laws_FnDurations.j0 k a2 (!t119)))) = some r := by rw [if_pos rfl] at H; exact H
        clear H
        have H := H1
        clear H1
        replace H := Option.bind_eq_some_iff.mp H
        obtain ⟨t118, A130, H⟩ := H
        replace H : ((spec_Near.f t118 (wrap64 ((wrap64 ((wrap64 (a1 / 65536)) * 1000000000)) + t115))).bind fun t119 => (laws_FnDurations.j0 k a2 (!t119))) = some r := H
        have A13 := Aside0.mk A130
        clear A130
        replace H := Option.bind_eq_some_iff.mp H
        obtain ⟨t119, A140, H⟩ := H
        replace H : (laws_FnDurations.j0 k a2 (!t119)) = some r := H
        have A14 := Aside0.mk A140
        clear A140
        have H' := Aside0.mk H
        clear H
        go_wp2_with (first | ((with_reducible refine gate_callee (f := 16) rfl ?_); refine goesL_ (some 31) rfl rfl Try.func16 (by kernel_rfl) rfl #[.int .u64 a0] rfl (by (try simp only [List.map_toArray, List.map_cons, List.map_nil]); first | done | rfl | (simp only [List.length_drop, List.length_take]; rfl)) ?_; (with_reducible refine (impl_Duration.calls a0 t116 _ A10.out).mono ?_); rintro e w' ⟨rfl, ⟨nd, rfl⟩⟩; refine ⟨_, rfl, ?_⟩) | ((with_reducible refine gate_callee (f := 15) rfl ?_); refine goesL_ (some 33) rfl rfl Try.func15 (by kernel_rfl) rfl #[.int .i64 t116, .int .i64 (wrap64 ((wrap64 ((wrap64 (a0 / 4294967296)) * 1000000000)) + t114))] rfl (by (try simp only [List.map_toArray, List.map_cons, List.map_nil]); first | done | rfl | (simp only [List.length_drop, List.length_take]; rfl)) ?_; (with_reducible refine (spec_Near.calls t116 (wrap64 ((wrap64 ((wrap64 (a0 / 4294967296)) * 1000000000)) + t114)) true _ A11.out).mono ?_); rintro e w' ⟨rfl, ⟨nd, rfl⟩⟩; refine ⟨_, rfl, ?_⟩) | (go_at_call 17; (with_reducible refine (impl_Short.calls a1 t118 _ A13.out).mono ?_); rintro e w' ⟨rfl, ⟨nd, rfl⟩⟩) | (go_at_call 15; (with_reducible refine (spec_Near.calls t118 (wrap64 ((wrap64 ((wrap64 (a1 / 65536)) * 1000000000)) + t115)) t119 _ A14.out).mono ?_); rintro e w' ⟨rfl, ⟨nd, rfl⟩⟩))
        go_meet
        case rel => exact ⟨_, (!t119), (by first | rfl | (simp; done) | (simp [*]; done)), H', ⟨by first | omega | exact Nat.le_refl _⟩, ⟨by repeat (first | (with_reducible first | exact HB.out | apply below_alloc | apply pw_below_drewN | apply below_drew1) | exact HB.out)⟩⟩
      · replace c12 := Bool.eq_false_iff.mpr c12
        subst c12
        have H1 : (laws_FnDurations.j0 k a2 true) = some r := by rw [if_neg (show ¬ (false = true) by decide)] at H; exact H
        clear H
        have H := H1
        clear H1
        have H' := Aside0.mk H
        clear H
        go_wp2_with (first | ((with_reducible refine gate_callee (f := 16) rfl ?_); refine goesL_ (some 31) rfl rfl Try.func16 (by kernel_rfl) rfl #[.int .u64 a0] rfl (by (try simp only [List.map_toArray, List.map_cons, List.map_nil]); first | done | rfl | (simp only [List.length_drop, List.length_take]; rfl)) ?_; (with_reducible refine (impl_Duration.calls a0 t116 _ A10.out).mono ?_); rintro e w' ⟨rfl, ⟨nd, rfl⟩⟩; refine ⟨_, rfl, ?_⟩) | ((with_reducible refine gate_callee (f := 15) rfl ?_); refine goesL_ (some 33) rfl rfl Try.func15 (by kernel_rfl) rfl #[.int .i64 t116, .int .i64 (wrap64 ((wrap64 ((wrap64 (a0 / 4294967296)) * 1000000000)) + t114))] rfl (by (try simp only [List.map_toArray, List.map_cons, List.map_nil]); first | done | rfl | (simp only [List.length_drop, List.length_take]; rfl)) ?_; (with_reducible refine (spec_Near.calls t116 (wrap64 ((wrap64 ((wrap64 (a0 / 4294967296)) * 1000000000)) + t114)) false _ A11.out).mono ?_); rintro e w' ⟨rfl, ⟨nd, rfl⟩⟩; refine ⟨_, rfl, ?_⟩))
        go_meet
        case rel => exact ⟨_, (true), (by first | rfl | (simp; done) | (simp [*]; done)), H', ⟨by first | omega | exact Nat.le_refl _⟩, ⟨by repeat (first | (with_reducible first | exact HB.out | apply below_alloc | apply pw_below_drewN | apply below_drew1) | exact HB.out)⟩⟩
    case rest =>
      clear HC9
      try clear c1
      try clear p2
      try clear c4
      try clear c4b0
      try clear p6
      try clear c12
      try clear c13
      try clear c14
      obtain ⟨kq, x41_8, rfl, HA, HJ8, HB⟩ := hcut
      cases kq with
      | zero => exact absurd HA.out (by simp [laws_FnDurations.j0])
      | succ kj8 =>
        have H := HA.out
        clear HA
        simp only [laws_FnDurations.j0] at H
        by_cases c15 : x41_8 = true
        · subst c15
          have H1 : (some false) = some r := by rw [if_pos rfl] at H; exact H
          clear H
          have H := H1
          clear H1
          obtain rfl := Option.some.inj H
          go_wp2
          go_ret
          exact ⟨by first | rfl | (simp [errW_none, errW_some] <;> rfl) | (simp [*, errW_none, errW_some] <;> rfl), by repeat (first | (with_reducible first | exact HB.out | apply below_alloc | apply pw_below_drewN | apply below_drew1) | exact HB.out)⟩
        · replace c15 := Bool.eq_false_iff.mpr c15
          subst c15
          have H1 : (if a2 ≥ (-127) then (laws_FnDurations.j1 kj8 a2 (decide (a2 ≤ 127))) else (laws_FnDurations.j1 kj8 a2 false)) = some r := by rw [if_neg (show ¬ (false = true) by decide)] at H; exact H
          clear H
          have H := H1
          clear H1
          have HC16 := Aside0.mk H
          clear H
          go_upto_region 7 with (fail)
          go_cut [47] (fun v47 wc => ∃ (kq : Nat) (x47_15 : Bool), v47 = .bool x47_15 ∧ Aside0 (laws_FnDurations.j1 kq a2 x47_15 = some r) ∧ Aside0 (kq ≤ kj8) ∧ Aside0 (Below w.heap.size w wc))
          case first =>
            have H := HC16.out
            clear HC16
            by_cases c17 : a2 ≥ (-127)
            · rw [if_pos c17] at H
              have c17b0 : decide ((-127) ≤ a2) = true := decide_eq_true c17
              clear c17
              (first | rw [c17b0] | (simp only [i64_w, i32_w]; rw [c17b0]) | skip)
              have H' := Aside0.mk H
              clear H
              go_wp2
              go_meet
              case rel => exact ⟨_, (decide (a2 ≤ 127)), (by first | rfl | (simp; done) | (simp [*]; done)), H', ⟨by have := HJ8.out; first | omega | exact Nat.le_refl _⟩, ⟨by repeat (first | (with_reducible first | exact HB.out | apply below_alloc | apply pw_below_drewN | apply below_drew1) | exact HB.out)⟩⟩
            · rw [if_neg c17] at H
              have c17b0 : decide ((-127) ≤ a2) = false := decide_eq_false c17
              clear c17
              (first | rw [c17b0] | (simp only [i64_w, i32_w]; rw [c17b0]) | skip)
              have H' := Aside0.mk H
              clear H
              go_wp2
              go_meet
              case rel => exact ⟨_, (false), (by first | rfl | (simp; done) | (simp [*]; done)), H', ⟨by have := HJ8.out; first | omega | exact Nat.le_refl _⟩, ⟨by repeat (first | (with_reducible first | exact HB.out | apply below_alloc | apply pw_below_drewN | apply below_drew1) | exact HB.out)⟩⟩
          case rest =>
            clear HC16
            try clear c1
            try clear p2
            try clear c4
            try clear c4b0
            try clear p6
            try clear c12
            try clear c13
            try clear c14
            try clear c15
            try clear c16
            try clear c17
            try clear c17b0
            try clear p2
            try clear p6
            obtain ⟨kq, x47_15, rfl, HA, HJ15, HB⟩ := hcut
            cases kq with
            | zero => exact absurd HA.out (by simp [laws_FnDurations.j1])
            | succ kj15 =>
              have H := HA.out
              clear HA
              simp only [laws_FnDurations.j1] at H
              by_cases c18 : x47_15 = true
              · subst c18
                have H1 : ((spec_Power.f kj15 a2).bind fun bt120 => (if bt120.2 = true then ((impl_Interval.f kj15 a2).bind fun t122 => (if t122 = bt120.1 then ((laws_works.f kj15).bind fun t123 => (some t123)) else (some false))) else ((laws_works.f kj15).bind fun t124 => (some t124)))) = some r := by rw [if_pos rfl] at H; exact H
                clear H
                have H := H1
                clear H1
                replace H := Option.bind_eq_some_iff.mp H
                obtain ⟨⟨t120, t121⟩, A190, H⟩ := H
                replace H : (if t121 = true then ((impl_Interval.f kj15 a2).bind fun t122 => (if t122 = t120 then ((laws_works.f kj15).bind fun t123 => (some t123)) else (some false))) else ((laws_works.f kj15).bind fun t124 => (some t124))) = some r := H
                have A19 := Aside0.mk A190
                clear A190
                by_cases c20 : t121 = true
                · subst c20
                  have H1 : ((impl_Interval.f kj15 a2).bind fun t122 => (if t122 = t120 then ((laws_works.f kj15).bind fun t123 => (some t123)) else (some false))) = some r := by rw [if_pos rfl] at H; exact H
                  clear H
                  have H := H1
                  clear H1
                  replace H := Option.bind_eq_some_iff.mp H
                  obtain ⟨t122, A210, H⟩ := H
                  replace H : (if t122 = t120 then ((laws_works.f kj15).bind fun t123 => (some t123)) else (some false)) = some r := H
                  have A21 := Aside0.mk A210
                  clear A210
                  by_cases c22 : t122 = t120
                  · rw [if_pos c22] at H
                    have c22b0 : (t122 == t120) = true := beq_iff_eq.mpr c22
                    have c22b1 : (t122 != t120) = false := bne_eq_false_iff_eq.mpr c22
                    clear c22
                    replace H := Option.bind_eq_some_iff.mp H
                    obtain ⟨t123, A230, H⟩ := H
                    replace H : (some t123) = some r := H
                    have A23 := Aside0.mk A230
                    clear A230
                    obtain rfl := Option.some.inj H
                    go_wp2_with (first | ((with_reducible refine gate_callee (f := 18) rfl ?_); refine goesL_ (some 50) rfl rfl Try.func18 (by kernel_rfl) rfl #[.int .i64 a2] rfl (by (try simp only [List.map_toArray, List.map_cons, List.map_nil]); first | done | rfl | (simp only [List.length_drop, List.length_take]; rfl)) ?_; (with_reducible refine (spec_Power.calls kj15 a2 t120 true _ A19.out).mono ?_); rintro e w24 ⟨rfl, hb⟩; refine ⟨_, rfl, ?_⟩; have n0_ := Aside0.mk (below_step (by repeat (first | (with_reducible first | exact HB.out | apply below_alloc | apply pw_below_drewN | apply below_drew1) | exact HB.out)) hb); clear HB; have HB := n0_; clear n0_; (try clear hb); (try clear hb2); (try clear hk); (try clear hi)) | (go_at_call 19; (with_reducible refine (impl_Interval.calls kj15 a2 t122 _ A21.out).mono ?_); rintro e w25 ⟨rfl, hb⟩; have n0_ := Aside0.mk (below_step (by repeat (first | (with_reducible first | exact HB.out | apply below_alloc | apply pw_below_drewN | apply below_drew1) | exact HB.out)) hb); clear HB; have HB := n0_; clear n0_; (try clear hb); (try clear hb2); (try clear hk); (try clear hi)) | ((with_reducible refine gate_callee (f := 13) rfl ?_); refine goesL_ (some 60) rfl rfl Try.func13 (by kernel_rfl) rfl #[] rfl (by (try simp only [List.map_toArray, List.map_cons, List.map_nil]); first | done | rfl | (simp only [List.length_drop, List.length_take]; rfl)) ?_; (with_reducible refine (laws_works.calls kj15  t123 _ A23.out).mono ?_); rintro e w26 ⟨rfl, hb⟩; refine ⟨_, rfl, ?_⟩; have n0_ := Aside0.mk (below_step (by repeat (first | (with_reducible first | exact HB.out | apply below_alloc | apply pw_below_drewN | apply below_drew1) | exact HB.out)) hb); clear HB; have HB := n0_; clear n0_; (try clear hb); (try clear hb2); (try clear hk); (try clear hi)))
                    go_ret
                    exact ⟨by first | rfl | (simp [errW_none, errW_some] <;> rfl) | (simp [*, errW_none, errW_some] <;> rfl), by repeat (first | (with_reducible first | exact HB.out | apply below_alloc | apply pw_below_drewN | apply below_drew1) | exact HB.out)⟩
                  · rw [if_neg c22] at H
                    have c22b0 : (t122 == t120) = false := beq_eq_false_iff_ne.mpr c22
                    have c22b1 : (t122 != t120) = true := bne_iff_ne.mpr c22
                    obtain rfl := Option.some.inj H
                    go_wp2_with (first | ((with_reducible refine gate_callee (f := 18) rfl ?_); refine goesL_ (some 50) rfl rfl Try.func18 (by kernel_rfl) rfl #[.int .i64 a2] rfl (by (try simp only [List.map_toArray, List.map_cons, List.map_nil]); first | done | rfl | (simp only [List.length_drop, List.length_take]; rfl)) ?_; (with_reducible refine (spec_Power.calls kj15 a2 t120 true _ A19.out).mono ?_); rintro e w27 ⟨rfl, hb⟩; refine ⟨_, rfl, ?_⟩; have n0_ := Aside0.mk (below_step (by repeat (first | (with_reducible first | exact HB.out | apply below_alloc | apply pw_below_drewN | apply below_drew1) | exact HB.out)) hb); clear HB; have HB := n0_; clear n0_; (try clear hb); (try clear hb2); (try clear hk); (try clear hi)) | (go_at_call 19; (with_reducible refine (impl_Interval.calls kj15 a2 t122 _ A21.out).mono ?_); rintro e w28 ⟨rfl, hb⟩; have n0_ := Aside0.mk (below_step (by repeat (first | (with_reducible first | exact HB.out | apply below_alloc | apply pw_below_drewN | apply below_drew1) | exact HB.out)) hb); clear HB; have HB := n0_; clear n0_; (try clear hb); (try clear hb2); (try clear hk); (try clear hi)))
                    go_ret
                    exact ⟨by first | rfl | (simp [errW_none, errW_some] <;> rfl) | (simp [*, errW_none, errW_some] <;> rfl), by repeat (first | (with_reducible first | exact HB.out | apply below_alloc | apply pw_below_drewN | apply below_drew1) | exact HB.out)⟩
                · replace c20 := Bool.eq_false_iff.mpr c20
                  subst c20
                  have H1 : ((laws_works.f kj15).bind fun t124 => (some t124)) = some r := by rw [if_neg (show ¬ (false = true) by decide)] at H; exact H
                  clear H
                  have H := H1
                  clear H1
                  replace H := Option.bind_eq_some_iff.mp H
                  obtain ⟨t124, A290, H⟩ := H
                  replace H : (some t124) = some r := H
                  have A29 := Aside0.mk A290
                  clear A290
                  obtain rfl := Option.some.inj H
                  go_wp2_with (first | ((with_reducible refine gate_callee (f := 18) rfl ?_); refine goesL_ (some 50) rfl rfl Try.func18 (by kernel_rfl) rfl #[.int .i64 a2] rfl (by (try simp only [List.map_toArray, List.map_cons, List.map_nil]); first | done | rfl | (simp only [List.length_drop, List.length_take]; rfl)) ?_; (with_reducible refine (spec_Power.calls kj15 a2 t120 false _ A19.out).mono ?_); rintro e w30 ⟨rfl, hb⟩; refine ⟨_, rfl, ?_⟩; have n0_ := Aside0.mk (below_step (by repeat (first | (with_reducible first | exact HB.out | apply below_alloc | apply pw_below_drewN | apply below_drew1) | exact HB.out)) hb); clear HB; have HB := n0_; clear n0_; (try clear hb); (try clear hb2); (try clear hk); (try clear hi)) | ((with_reducible refine gate_callee (f := 13) rfl ?_); refine goesL_ (some 60) rfl rfl Try.func13 (by kernel_rfl) rfl #[] rfl (by (try simp only [List.map_toArray, List.map_cons, List.map_nil]); first | done | rfl | (simp only [List.length_drop, List.length_take]; rfl)) ?_; (with_reducible refine (laws_works.calls kj15  t124 _ A29.out).mono ?_); rintro e w31 ⟨rfl, hb⟩; refine ⟨_, rfl, ?_⟩; have n0_ := Aside0.mk (below_step (by repeat (first | (with_reducible first | exact HB.out | apply below_alloc | apply pw_below_drewN | apply below_drew1) | exact HB.out)) hb); clear HB; have HB := n0_; clear n0_; (try clear hb); (try clear hb2); (try clear hk); (try clear hi)))
                  go_ret
                  exact ⟨by first | rfl | (simp [errW_none, errW_some] <;> rfl) | (simp [*, errW_none, errW_some] <;> rfl), by repeat (first | (with_reducible first | exact HB.out | apply below_alloc | apply pw_below_drewN | apply below_drew1) | exact HB.out)⟩
              · replace c18 := Bool.eq_false_iff.mpr c18
                subst c18
                have H1 : ((laws_works.f kj15).bind fun t125 => (some t125)) = some r := by rw [if_neg (show ¬ (false = true) by decide)] at H; exact H
                clear H
                have H := H1
                clear H1
                replace H := Option.bind_eq_some_iff.mp H
                obtain ⟨t125, A320, H⟩ := H
                replace H : (some t125) = some r := H
                have A32 := Aside0.mk A320
                clear A320
                obtain rfl := Option.some.inj H
                go_wp2_with (first | ((with_reducible refine gate_callee (f := 13) rfl ?_); refine goesL_ (some 60) rfl rfl Try.func13 (by kernel_rfl) rfl #[] rfl (by (try simp only [List.map_toArray, List.map_cons, List.map_nil]); first | done | rfl | (simp only [List.length_drop, List.length_take]; rfl)) ?_; (with_reducible refine (laws_works.calls kj15  t125 _ A32.out).mono ?_); rintro e w33 ⟨rfl, hb⟩; refine ⟨_, rfl, ?_⟩; have n0_ := Aside0.mk (below_step (by repeat (first | (with_reducible first | exact HB.out | apply below_alloc | apply pw_below_drewN | apply below_drew1) | exact HB.out)) hb); clear HB; have HB := n0_; clear n0_; (try clear hb); (try clear hb2); (try clear hk); (try clear hi)))
                go_ret
                exact ⟨by first | rfl | (simp [errW_none, errW_some] <;> rfl) | (simp [*, errW_none, errW_some] <;> rfl), by repeat (first | (with_reducible first | exact HB.out | apply below_alloc | apply pw_below_drewN | apply below_drew1) | exact HB.out)⟩

/-- THE ONE PURE STATEMENT of laws_FnDurations: yours. -/
def laws_FnDurations.Pure : Prop := ∀ (a0 : Int) (a1 : Int) (a2 : Int), (Lit.int .u64 a0).wf = true → (Lit.int .u32 a1).wf = true → (Lit.int .i64 a2).wf = true → ∃ k, laws_FnDurations.f k a0 a1 a2 = some true
theorem laws_FnDurations.walk (P : laws_FnDurations.Pure) (a0 : Int) (a1 : Int) (a2 : Int) (w : World) (w0 : (Lit.int .u64 a0).wf = true) (w1 : (Lit.int .u32 a1).wf = true) (w2 : (Lit.int .i64 a2).wf = true) :
    Calls Try.prog 4 #[.int .u64 a0, .int .u32 a1, .int .i64 a2] w fun e w' => e = .returned (.bool true) ∧ Below w.heap.size w w' := by
  obtain ⟨k, h⟩ := P a0 a1 a2 w0 w1 w2
  refine (laws_FnDurations.calls k a0 a1 a2 true w h).mono ?_
  rintro e w' ⟨rfl, hd⟩
  exact ⟨rfl, hd⟩

end Go.Proofs.Ytaanpoankljblaa.PFnDurations
