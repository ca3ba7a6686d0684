-- PRINTED BY print.sh 35421559b90ae4d0a3588c463048766b98c2df88dd9212a6774a882060cdf62d: not written by this session
import Derived.Test.YtaanpoankljblaaPFnDurationsx0
namespace Go.Proofs.Ytaanpoankljblaa.PFnDurations
open Go.RowKit Go.Proofs.YtaanpoankljblaaW.PrintWords Go.Proofs.YtaanpoankljblaaW.PrintLast Go.Proofs.YtaanpoankljblaaW.PrintMore
attribute [local go_sem] max2_int min2_int max_two min_two max_three min_three max_four min_four   -- for this text's walks alone
set_option linter.unusedVariables false
set_option linter.unusedSimpArgs false

/-! ### impl_within: function 47 -/
def impl_within.l0 : Nat → Int → Int → List Int → Int → Int → Option (Bool)
  | 0, _, _, _, _, _ => none
  | k + 1, x0, x1, x9, x10, x11 => if x11 < x10 then (if 0 ≤ x11 then (if x11 < (x9.length : Int) then (if (rd x9 x11) < x0 then (some false) else (if (rd x9 x11) > x1 then (some false) else (impl_within.l0 k x0 x1 x9 x10 (wrap64 (x11 + 1))))) else (none)) else (none)) else (some true)
def impl_within.f (k : Nat) (a0 : Int) (a1 : Int) (l2 : List Int) : Option (Bool) := impl_within.l0 k a0 a1 l2 (l2.length : Int) 0
theorem impl_within.mono_l : ∀ k, (∀ y0 y1 y2 y3 y4, LeO (impl_within.l0 k y0 y1 y2 y3 y4) (impl_within.l0 (k + 1) y0 y1 y2 y3 y4))
  | 0 => fun _ _ _ _ _ r h => by simp [impl_within.l0] at h
  | k + 1 => by
    have ih0 := impl_within.mono_l k
    · intro y0 y1 y2 y3 y4
      unfold impl_within.l0
      repeat' first
      | (with_reducible exact ih0 _ _ _ _ _)
      | (with_reducible exact LeO.refl _)
      | (with_reducible exact LeO.none _)
      | (with_reducible refine LeO.ite ?_ ?_)
      | (with_reducible refine LeO.bind ?_ (fun _ => ?_))
      | exact ih0 _ _ _ _ _
      | exact LeO.none _
      | refine LeO.ite ?_ ?_
      | refine LeO.bind ?_ (fun _ => ?_)
theorem impl_within.mono : ∀ a0 a1 a2 k, LeO (impl_within.f k a0 a1 a2) (impl_within.f (k + 1) a0 a1 a2) := by
  intro a0 a1 a2 k
  have ih0 := impl_within.mono_l k
  unfold impl_within.f
  repeat' first
      | (with_reducible exact ih0 _ _ _ _ _)
      | (with_reducible exact LeO.refl _)
      | (with_reducible exact LeO.none _)
      | (with_reducible refine LeO.ite ?_ ?_)
      | (with_reducible refine LeO.bind ?_ (fun _ => ?_))
      | exact ih0 _ _ _ _ _
      | exact LeO.none _
      | refine LeO.ite ?_ ?_
      | refine LeO.bind ?_ (fun _ => ?_)
set_option maxHeartbeats 8000000 in
set_option maxRecDepth 100000 in
theorem impl_within.calls (k : Nat) (a0 : Int) (a1 : Int) (A2 : Option Addr) (c2 : Nat) (l2 : List Int) (r : Bool) (w : World) (hr2 : Kd.C (Kd.int .i64) w A2 l2.length l2) (hc2 : l2.length ≤ c2) (h : impl_within.f k a0 a1 l2 = some r) :
    Calls Try.prog 47 #[.int .i64 a0, .int .i64 a1, .slice A2 l2.length c2] w fun e w' => e = .returned (.bool r) ∧ Drawn0 w w' := by
  have HR2 := Aside0.mk hr2
  have HC2 := Aside0.mk hc2
  clear hr2 hc2
  have H : (impl_within.l0 k a0 a1 l2 (l2.length : Int) 0) = some r := h
  clear h
  have H' := Aside0.mk H
  clear H
  go_enter Try.func47, Try.ntmps47
  go_wp2
  go_loopg [11] k (fun kq v11 w' => ∃ (x11_1 : Int), v11 = .int .i64 x11_1 ∧ Aside0 (impl_within.l0 kq a0 a1 l2 (l2.length : Int) x11_1 = some r) ∧ Aside0 (kq ≤ k) ∧ Drawn0 w w')
  case atStart => exact ⟨(0), (by first | rfl | (simp; done) | (simp [*]; done)), H', ⟨Nat.le_refl _⟩, by repeat (first | exact Drawn0.refl _ | apply Drawn0.step)⟩
  case round =>
    clear H'
    try clear c2
    try clear p2
    obtain ⟨x11_1, rfl, HA, HK1, ⟨m1, rfl⟩⟩ := hrel
    cases gk with
    | zero => exact absurd HA.out (by simp [impl_within.l0])
    | succ k1 =>
      have H := HA.out
      clear HA
      simp only [impl_within.l0] at H
      by_cases c4 : x11_1 < (l2.length : Int)
      · rw [if_pos c4] at H
        have c4b0 : decide (x11_1 < (l2.length : Int)) = true := decide_eq_true c4
        clear c4
        by_cases c5 : 0 ≤ x11_1
        · rw [if_pos c5] at H
          have c5b0 : decide (0 ≤ x11_1) = true := decide_eq_true c5
          clear c5
          by_cases c6 : x11_1 < (l2.length : Int)
          · rw [if_pos c6] at H
            have c6b0 : decide (x11_1 < (l2.length : Int)) = true := decide_eq_true c6
            clear c6
            by_cases c7 : (rd l2 x11_1) < a0
            · rw [if_pos c7] at H
              have c7b0 : decide ((rd l2 x11_1) < a0) = true := decide_eq_true c7
              clear c7
              obtain rfl := Option.some.inj H
              have p101 : 0 ≤ (x11_1 : Int) := of_decide_eq_true (by first | (with_reducible assumption) | assumption)
              have q101 : x11_1 < (l2.length : Int) := of_decide_eq_true (by first | (with_reducible assumption) | assumption)
              obtain ⟨ad101, e101, hx101_0⟩ := Kd.at_int HR2.out x11_1 p101 q101
              cases e101
              replace p101 := eq_true p101
              replace q101 := eq_true q101
              go_wp2
              go_ret
              exact ⟨by first | rfl | (simp; done) | (simp [*]; done), by repeat (first | exact Drawn0.refl _ | apply Drawn0.step)⟩
            · rw [if_neg c7] at H
              have c7b0 : decide ((rd l2 x11_1) < a0) = false := decide_eq_false c7
              clear c7
              by_cases c8 : (rd l2 x11_1) > a1
              · rw [if_pos c8] at H
                have c8b0 : decide (a1 < (rd l2 x11_1)) = true := decide_eq_true c8
                clear c8
                obtain rfl := Option.some.inj H
                have p101 : 0 ≤ (x11_1 : Int) := of_decide_eq_true (by first | (with_reducible assumption) | assumption)
                have q101 : x11_1 < (l2.length : Int) := of_decide_eq_true (by first | (with_reducible assumption) | assumption)
                obtain ⟨ad101, e101, hx101_0⟩ := Kd.at_int HR2.out x11_1 p101 q101
                cases e101
                replace p101 := eq_true p101
                replace q101 := eq_true q101
                go_wp2
                go_ret
                exact ⟨by first | rfl | (simp; done) | (simp [*]; done), by repeat (first | exact Drawn0.refl _ | apply Drawn0.step)⟩
              · rw [if_neg c8] at H
                have c8b0 : decide (a1 < (rd l2 x11_1)) = false := decide_eq_false c8
                clear c8
                have H' := Aside0.mk H
                clear H
                have p101 : 0 ≤ (x11_1 : Int) := of_decide_eq_true (by first | (with_reducible assumption) | assumption)
                have q101 : x11_1 < (l2.length : Int) := of_decide_eq_true (by first | (with_reducible assumption) | assumption)
                obtain ⟨ad101, e101, hx101_0⟩ := Kd.at_int HR2.out x11_1 p101 q101
                cases e101
                replace p101 := eq_true p101
                replace q101 := eq_true q101
                go_wp2
                go_roundg k1
                case measure => have := HK1.out; omega
                case rel => exact ⟨(wrap64 (x11_1 + 1)), (by first | rfl | (simp; done) | (simp [*]; done)), H', ⟨by have := HK1.out; omega⟩, by repeat (first | exact Drawn0.refl _ | apply Drawn0.step)⟩
          · rw [if_neg c6] at H
            exact absurd H (by simp)
        · rw [if_neg c5] at H
          exact absurd H (by simp)
      · rw [if_neg c4] at H
        have c4b0 : decide (x11_1 < (l2.length : Int)) = false := decide_eq_false c4
        clear c4
        obtain rfl := Option.some.inj H
        go_wp2
        go_ret
        exact ⟨by first | rfl | (simp; done) | (simp [*]; done), by repeat (first | exact Drawn0.refl _ | apply Drawn0.step)⟩

/-! ### ntp4_toInterval: function 68 -/
def ntp4_toInterval.f (a0 : Int) : Option (Int) := if a0 > 0 then (if 0 ≤ (wrap64 (a0)) then (some (shl .i64 1000000000 (wrap64 (a0)))) else (none)) else (if a0 < 0 then (if 0 ≤ (wrap64 (IntKind.i8.wrap (-a0))) then (some (shr .i64 1000000000 (wrap64 (IntKind.i8.wrap (-a0))))) else (none)) else (some 1000000000))
set_option maxHeartbeats 8000000 in
set_option maxRecDepth 100000 in
theorem ntp4_toInterval.calls (a0 : Int) (r : Int) (w : World) (h : ntp4_toInterval.f a0 = some r) :
    Calls Try.prog 68 #[.int .i8 a0] w fun e w' => e = .returned (.int .i64 r) ∧ Drawn0 w w' := by
  have H : (if a0 > 0 then (if 0 ≤ (wrap64 (a0)) then (some (shl .i64 1000000000 (wrap64 (a0)))) else (none)) else (if a0 < 0 then (if 0 ≤ (wrap64 (IntKind.i8.wrap (-a0))) then (some (shr .i64 1000000000 (wrap64 (IntKind.i8.wrap (-a0))))) else (none)) else (some 1000000000))) = some r := h
  clear h
  by_cases c2 : a0 > 0
  · rw [if_pos c2] at H
    have c2b0 : decide (0 < a0) = true := decide_eq_true c2
    clear c2
    obtain ⟨ji3, hji3⟩ : ∃ j_ : Int, (wrap64 (a0)) = j_ := ⟨_, rfl⟩
    replace H : (if 0 ≤ (ji3) then (some (shl .i64 1000000000 (ji3))) else (none)) = some r := by first | (rw [hji3] at H; exact H) | (simp only [hji3] at H ⊢; exact H)
    have hji3w : (IntKind.i64.wrap (a0)) = ji3 := (i64_w _).trans hji3
    by_cases c4 : 0 ≤ (ji3)
    · rw [if_pos c4] at H
      have c4b0 := eq_true c4
      have c4b1 : decide (0 ≤ (ji3)) = true := decide_eq_true c4
      clear c4
      obtain ⟨ji5, hji5⟩ : ∃ j_ : Int, (shl .i64 1000000000 (ji3)) = j_ := ⟨_, rfl⟩
      replace H : (some ji5) = some r := by first | (rw [hji5] at H; exact H) | (simp only [hji5] at H ⊢; exact H)
      have hji5_ : (IntKind.i64.wrap (1000000000 * 2 ^ min (ji3).toNat 64)) = ji5 := hji5
      have hji5z : (ji3) ≤ 64 → (IntKind.i64.wrap (1000000000 * 2 ^ (ji3).toNat)) = ji5 := shl_small hji5
      have hji5y : (wrap64 (1000000000 * 2 ^ min (ji3).toNat 64)) = ji5 := (i64_w _).symm.trans hji5_
      have hji5x : (ji3) ≤ 64 → (wrap64 (1000000000 * 2 ^ (ji3).toNat)) = ji5 := fun h_ => (i64_w _).symm.trans (hji5z h_)
      obtain rfl := Option.some.inj H
      go_enter Try.func68, Try.ntmps68
      go_wp2
      go_ret
      exact ⟨by first | rfl | (simp; done) | (simp only [← hji3, ← hji5] <;> (first | rfl | simp)) | (simp [*]; done), by repeat (first | exact Drawn0.refl _ | apply Drawn0.step)⟩
    · rw [if_neg c4] at H
      exact absurd H (by simp)
  · rw [if_neg c2] at H
    have c2b0 : decide (0 < a0) = false := decide_eq_false c2
    clear c2
    by_cases c6 : a0 < 0
    · rw [if_pos c6] at H
      have c6b0 : decide (a0 < 0) = true := decide_eq_true c6
      clear c6
      obtain ⟨ji7, hji7⟩ : ∃ j_ : Int, (wrap64 (IntKind.i8.wrap (-a0))) = j_ := ⟨_, rfl⟩
      replace H : (if 0 ≤ (ji7) then (some (shr .i64 1000000000 (ji7))) else (none)) = some r := by first | (rw [hji7] at H; exact H) | (simp only [hji7] at H ⊢; exact H)
      have hji7w : (IntKind.i64.wrap (IntKind.i8.wrap (-a0))) = ji7 := (i64_w _).trans hji7
      by_cases c8 : 0 ≤ (ji7)
      · rw [if_pos c8] at H
        have c8b0 := eq_true c8
        have c8b1 : decide (0 ≤ (ji7)) = true := decide_eq_true c8
        clear c8
        obtain ⟨ji9, hji9⟩ : ∃ j_ : Int, (shr .i64 1000000000 (ji7)) = j_ := ⟨_, rfl⟩
        replace H : (some ji9) = some r := by first | (rw [hji9] at H; exact H) | (simp only [hji9] at H ⊢; exact H)
        have hji9_ : (1000000000 / 2 ^ min (ji7).toNat 64) = ji9 := hji9
        have hji9z : (ji7) ≤ 64 → (1000000000 / 2 ^ (ji7).toNat) = ji9 := shr_small hji9
        obtain rfl := Option.some.inj H
        go_enter Try.func68, Try.ntmps68
        go_wp2
        go_ret
        exact ⟨by first | rfl | (simp; done) | (simp only [← hji7, ← hji9] <;> (first | rfl | simp)) | (simp [*]; done), by repeat (first | exact Drawn0.refl _ | apply Drawn0.step)⟩
      · rw [if_neg c8] at H
        exact absurd H (by simp)
    · rw [if_neg c6] at H
      have c6b0 : decide (a0 < 0) = false := decide_eq_false c6
      clear c6
      obtain rfl := Option.some.inj H
      go_enter Try.func68, Try.ntmps68
      go_wp2
      go_ret
      exact ⟨by first | rfl | (simp; done) | (simp [*]; done), by repeat (first | exact Drawn0.refl _ | apply Drawn0.step)⟩

/-! ### ntp4_ZZInterval: function 48 -/
def ntp4_ZZInterval.f (a0 : Int) : Option (Int) := (ntp4_toInterval.f a0).bind fun t102 => (some t102)
set_option maxHeartbeats 8000000 in
set_option maxRecDepth 100000 in
theorem ntp4_ZZInterval.calls (a0 : Int) (r : Int) (w : World) (h : ntp4_ZZInterval.f a0 = some r) :
    Calls Try.prog 48 #[.int .i8 a0] w fun e w' => e = .returned (.int .i64 r) ∧ Drawn0 w w' := by
  have H : ((ntp4_toInterval.f a0).bind fun t102 => (some t102)) = some r := h
  clear h
  replace H := Option.bind_eq_some_iff.mp H
  obtain ⟨t102, A20, H⟩ := H
  replace H : (some t102) = some r := H
  have A2 := Aside0.mk A20
  clear A20
  obtain rfl := Option.some.inj H
  go_enter Try.func48, Try.ntmps48
  go_wp2_with (first | ((with_reducible refine gate_callee (f := 68) rfl ?_); refine goesL_ (some 4) rfl rfl Try.func68 (by kernel_rfl) rfl #[.int .i8 a0] rfl (by (try simp only [List.map_toArray, List.map_cons, List.map_nil]); first | done | rfl | (simp only [List.length_drop, List.length_take]; rfl)) ?_; (with_reducible refine (ntp4_toInterval.calls a0 t102 _ A2.out).mono ?_); rintro e w' ⟨rfl, ⟨nd, rfl⟩⟩; refine ⟨_, rfl, ?_⟩))
  go_ret
  exact ⟨by first | rfl | (simp; done) | (simp [*]; done), by repeat (first | exact Drawn0.refl _ | apply Drawn0.step)⟩

/-! ### impl_Interval: function 19 -/
def impl_Interval.f (k : Nat) (a0 : Int) : Option (Int) := (impl_within.f k (-128) 127 (([a0] : List Int))).bind fun t106 => (if t106 = true then ((ntp4_ZZInterval.f (IntKind.i8.wrap (a0))).bind fun t107 => (some t107)) else (some 0))
theorem impl_Interval.mono : ∀ a0 k, LeO (impl_Interval.f k a0) (impl_Interval.f (k + 1) a0) := by
  intro a0 k
  unfold impl_Interval.f
  repeat' first
      | (with_reducible exact impl_within.mono _ _ _ _)
      | (with_reducible exact LeO.refl _)
      | (with_reducible exact LeO.none _)
      | (with_reducible refine LeO.ite ?_ ?_)
      | (with_reducible refine LeO.bind ?_ (fun _ => ?_))
      | exact impl_within.mono _ _ _ _
      | exact LeO.none _
      | refine LeO.ite ?_ ?_
      | refine LeO.bind ?_ (fun _ => ?_)
set_option maxHeartbeats 8000000 in
set_option maxRecDepth 100000 in
theorem impl_Interval.calls (k : Nat) (a0 : Int) (r : Int) (w : World) (h : impl_Interval.f k a0 = some r) :
    Calls Try.prog 19 #[.int .i64 a0] w fun e w' => e = .returned (.int .i64 r) ∧ Below w.heap.size w w' := by
  have HB := Aside0.mk (Below.refl w.heap.size w)
  have H : ((impl_within.f k (-128) 127 (([a0] : List Int))).bind fun t106 => (if t106 = true then ((ntp4_ZZInterval.f (IntKind.i8.wrap (a0))).bind fun t107 => (some t107)) else (some 0))) = some r := h
  clear h
  obtain ⟨y103, hy103⟩ : ∃ y_ : List Int, y_ = (([a0] : List Int)) := ⟨_, rfl⟩
  replace H : ((impl_within.f k (-128) 127 y103).bind fun t106 => (if t106 = true then ((ntp4_ZZInterval.f (IntKind.i8.wrap (a0))).bind fun t107 => (some t107)) else (some 0))) = some r := by first | (rw [hy103]; with_reducible exact H) | (have H2_ := (Option.bind_some _ _).symm.trans H; rw [hy103]; with_reducible exact H2_) | (have H2_ := (Option.bind_some _ _).symm.trans H; with_reducible exact H2_) | with_reducible exact H | (rw [hy103]; exact H) | exact H
  have Ny103 := Aside0.mk hy103
  clear hy103
  replace H := Option.bind_eq_some_iff.mp H
  obtain ⟨t106, A20, H⟩ := H
  replace H : (if t106 = true then ((ntp4_ZZInterval.f (IntKind.i8.wrap (a0))).bind fun t107 => (some t107)) else (some 0)) = some r := H
  have A2 := Aside0.mk A20
  clear A20
  by_cases c3 : t106 = true
  · subst c3
    have H1 : ((ntp4_ZZInterval.f (IntKind.i8.wrap (a0))).bind fun t107 => (some t107)) = some r := by rw [if_pos rfl] at H; exact H
    clear H
    have H := H1
    clear H1
    replace H := Option.bind_eq_some_iff.mp H
    obtain ⟨t107, A40, H⟩ := H
    replace H : (some t107) = some r := H
    have A4 := Aside0.mk A40
    clear A40
    obtain rfl := Option.some.inj H
    go_enter Try.func19, Try.ntmps19
    go_wp2_with (first | ((with_reducible refine gate_dst (N := 4) rfl ?_); refine Kd.R_lit (Kd.int .i64) _ 3 ?hg (N := 4) ?hd (xs := ([a0] : List Int)) (inner := [.int .i64 a0]) (ok := fun _ => True) (okp := fun _ => True) ?hr ?hp (fun _ hk => hk) trivial (Below.refl _ _) (Nat.le_refl _) (by simp) ?_; (case hd => rfl); (case hg => rfl); (case hr => first | (go_simp; done) | (go_simp; rfl)); (case hp => exact (Reps.one (show Kd.M (Kd.int .i64) _ _ _ a0 [.int .i64 a0] from rfl) (Reps.none _ _))); intro v104 w5 ho6 hb hg_ hnew_; clear hg_ hnew_; (first | rw [← Ny103.out] at ho6 | (simp only [Int.reduceToNat] at ho6; rw [← Ny103.out] at ho6)); have n0_ := Aside0.mk (Kd.R_lower ho6 (below_size (by repeat (first | (with_reducible first | exact HB.out | apply below_alloc | apply pw_below_drewN | apply below_drew1) | exact HB.out)))); have n1_ := Aside0.mk (below_step (by repeat (first | (with_reducible first | exact HB.out | apply below_alloc | apply pw_below_drewN | apply below_drew1) | exact HB.out)) hb); clear HB; have HO105 := n0_; have HB := n1_; clear n0_ n1_; clear hb ho6; obtain ⟨Ao7, co7, eo7⟩ := Kd.R_slice HO105.out; subst eo7) | ((with_reducible refine gate_callee (f := 47) rfl ?_); refine goesL_ (some 5) rfl rfl Try.func47 (by kernel_rfl) rfl #[.int .i64 (-128), .int .i64 127, .slice Ao7 y103.length co7] rfl (by (try simp only [List.map_toArray, List.map_cons, List.map_nil]); first | done | rfl | (simp only [List.length_drop, List.length_take]; rfl)) ?_; (with_reducible refine (impl_within.calls k (-128) 127 _ _ y103 true _ ?side1 ?side2 A2.out).mono ?_); (case side1 => repeat (first | exact (Kd.R_reads' HO105.out).2.2 | (with_reducible refine Kd.C_alloc ?_ _) | (with_reducible refine Kd.C_drewN ?_ _) | (with_reducible refine Kd.C_drew ?_))); (case side2 => exact (Kd.R_reads' HO105.out).2.1); rintro e w' ⟨rfl, ⟨nd, rfl⟩⟩; refine ⟨_, rfl, ?_⟩) | ((with_reducible refine gate_callee (f := 48) rfl ?_); refine goesL_ (some 9) rfl rfl Try.func48 (by kernel_rfl) rfl #[.int .i8 (IntKind.i8.wrap (a0))] rfl (by (try simp only [List.map_toArray, List.map_cons, List.map_nil]); first | done | rfl | (simp only [List.length_drop, List.length_take]; rfl)) ?_; (with_reducible refine (ntp4_ZZInterval.calls (IntKind.i8.wrap (a0)) t107 _ A4.out).mono ?_); rintro e w' ⟨rfl, ⟨nd, rfl⟩⟩; refine ⟨_, rfl, ?_⟩))
    go_ret
    exact ⟨by first | rfl | (simp [errW_none, errW_some] <;> rfl) | (simp [*, errW_none, errW_some] <;> rfl), by repeat (first | (with_reducible first | exact HB.out | apply below_alloc | apply pw_below_drewN | apply below_drew1) | exact HB.out)⟩
  · replace c3 := Bool.eq_false_iff.mpr c3
    subst c3
    have H1 : (some 0) = some r := by rw [if_neg (show ¬ (false = true) by decide)] at H; exact H
    clear H
    have H := H1
    clear H1
    obtain rfl := Option.some.inj H
    go_enter Try.func19, Try.ntmps19
    go_wp2_with (first | ((with_reducible refine gate_dst (N := 4) rfl ?_); refine Kd.R_lit (Kd.int .i64) _ 3 ?hg (N := 4) ?hd (xs := ([a0] : List Int)) (inner := [.int .i64 a0]) (ok := fun _ => True) (okp := fun _ => True) ?hr ?hp (fun _ hk => hk) trivial (Below.refl _ _) (Nat.le_refl _) (by simp) ?_; (case hd => rfl); (case hg => rfl); (case hr => first | (go_simp; done) | (go_simp; rfl)); (case hp => exact (Reps.one (show Kd.M (Kd.int .i64) _ _ _ a0 [.int .i64 a0] from rfl) (Reps.none _ _))); intro v104 w8 ho9 hb hg_ hnew_; clear hg_ hnew_; (first | rw [← Ny103.out] at ho9 | (simp only [Int.reduceToNat] at ho9; rw [← Ny103.out] at ho9)); have n0_ := Aside0.mk (Kd.R_lower ho9 (below_size (by repeat (first | (with_reducible first | exact HB.out | apply below_alloc | apply pw_below_drewN | apply below_drew1) | exact HB.out)))); have n1_ := Aside0.mk (below_step (by repeat (first | (with_reducible first | exact HB.out | apply below_alloc | apply pw_below_drewN | apply below_drew1) | exact HB.out)) hb); clear HB; have HO105 := n0_; have HB := n1_; clear n0_ n1_; clear hb ho9; obtain ⟨Ao10, co10, eo10⟩ := Kd.R_slice HO105.out; subst eo10) | ((with_reducible refine gate_callee (f := 47) rfl ?_); refine goesL_ (some 5) rfl rfl Try.func47 (by kernel_rfl) rfl #[.int .i64 (-128), .int .i64 127, .slice Ao10 y103.length co10] rfl (by (try simp only [List.map_toArray, List.map_cons, List.map_nil]); first | done | rfl | (simp only [List.length_drop, List.length_take]; rfl)) ?_; (with_reducible refine (impl_within.calls k (-128) 127 _ _ y103 false _ ?side1 ?side2 A2.out).mono ?_); (case side1 => repeat (first | exact (Kd.R_reads' HO105.out).2.2 | (with_reducible refine Kd.C_alloc ?_ _) | (with_reducible refine Kd.C_drewN ?_ _) | (with_reducible refine Kd.C_drew ?_))); (case side2 => exact (Kd.R_reads' HO105.out).2.1); rintro e w' ⟨rfl, ⟨nd, rfl⟩⟩; refine ⟨_, rfl, ?_⟩))
    go_ret
    exact ⟨by first | rfl | (simp [errW_none, errW_some] <;> rfl) | (simp [*, errW_none, errW_some] <;> rfl), by repeat (first | (with_reducible first | exact HB.out | apply below_alloc | apply pw_below_drewN | apply below_drew1) | exact HB.out)⟩

/-! ### laws_works: function 13 -/
def laws_works.f (k : Nat)  : Option (Bool) := (impl_Interval.f k 0).bind fun t108 => (some (t108 == 1000000000))
theorem laws_works.mono : ∀ k, LeO (laws_works.f k ) (laws_works.f (k + 1) ) := by
  intro  k
  unfold laws_works.f
  repeat' first
      | (with_reducible exact impl_Interval.mono _ _)
      | (with_reducible exact LeO.refl _)
      | (with_reducible exact LeO.none _)
      | (with_reducible refine LeO.ite ?_ ?_)
      | (with_reducible refine LeO.bind ?_ (fun _ => ?_))
      | exact impl_Interval.mono _ _
      | exact LeO.none _
      | refine LeO.ite ?_ ?_
      | refine LeO.bind ?_ (fun _ => ?_)
set_option maxHeartbeats 8000000 in
set_option maxRecDepth 100000 in
theorem laws_works.calls (k : Nat)  (r : Bool) (w : World) (h : laws_works.f k  = some r) :
    Calls Try.prog 13 #[] w fun e w' => e = .returned (.bool r) ∧ Below w.heap.size w w' := by
  have HB := Aside0.mk (Below.refl w.heap.size w)
  have H : ((impl_Interval.f k 0).bind fun t108 => (some (t108 == 1000000000))) = some r := h
  clear h
  replace H := Option.bind_eq_some_iff.mp H
  obtain ⟨t108, A10, H⟩ := H
  replace H : (some (t108 == 1000000000)) = some r := H
  have A1 := Aside0.mk A10
  clear A10
  obtain rfl := Option.some.inj H
  go_enter Try.func13, Try.ntmps13
  go_wp2_with (first | ((with_reducible refine gate_callee (f := 19) rfl ?_); refine goesL_ (some 1) rfl rfl Try.func19 (by kernel_rfl) rfl #[.int .i64 0] rfl (by (try simp only [List.map_toArray, List.map_cons, List.map_nil]); first | done | rfl | (simp only [List.length_drop, List.length_take]; rfl)) ?_; (with_reducible refine (impl_Interval.calls k 0 t108 _ A1.out).mono ?_); rintro e w2 ⟨rfl, hb⟩; refine ⟨_, rfl, ?_⟩; have n0_ := Aside0.mk (below_step (by repeat (first | (with_reducible first | exact HB.out | apply below_alloc | apply pw_below_drewN | apply below_drew1) | exact HB.out)) hb); clear HB; have HB := n0_; clear n0_; (try clear hb); (try clear hb2); (try clear hk); (try clear hi)))
  go_ret
  exact ⟨by first | rfl | (simp [errW_none, errW_some] <;> rfl) | (simp [*, errW_none, errW_some] <;> rfl), by repeat (first | (with_reducible first | exact HB.out | apply below_alloc | apply pw_below_drewN | apply below_drew1) | exact HB.out)⟩

/-! ### spec_Fraction: function 14 -/
def spec_Fraction.f (a0 : Int) : Option (Int) := some (wrap64 ((IntKind.u64.wrap ((IntKind.u64.wrap (a0)) * 1000000000)) / 4294967296))
set_option maxHeartbeats 8000000 in
set_option maxRecDepth 100000 in
theorem spec_Fraction.calls (a0 : Int) (r : Int) (w : World) (h : spec_Fraction.f a0 = some r) :
    Calls Try.prog 14 #[.int .u32 a0] w fun e w' => e = .returned (.int .i64 r) ∧ Drawn0 w w' := by
  have H : (some (wrap64 ((IntKind.u64.wrap ((IntKind.u64.wrap (a0)) * 1000000000)) / 4294967296))) = some r := h
  clear h
  obtain rfl := Option.some.inj H
  go_enter Try.func14, Try.ntmps14
  go_wp2
  go_ret
  exact ⟨by first | rfl | (simp; done) | (simp [*]; done), by repeat (first | exact Drawn0.refl _ | apply Drawn0.step)⟩

/-! ### spec_Near: function 15 -/
def spec_Near.f (a0 : Int) (a1 : Int) : Option (Bool) := if (wrap64 (a0 - a1)) ≥ (-1) then (some (decide ((wrap64 (a0 - a1)) ≤ 1))) else (some false)
set_option maxHeartbeats 8000000 in
set_option maxRecDepth 100000 in
theorem spec_Near.calls (a0 : Int) (a1 : Int) (r : Bool) (w : World) (h : spec_Near.f a0 a1 = some r) :
    Calls Try.prog 15 #[.int .i64 a0, .int .i64 a1] w fun e w' => e = .returned (.bool r) ∧ Drawn0 w w' := by
  have H : (if (wrap64 (a0 - a1)) ≥ (-1) then (some (decide ((wrap64 (a0 - a1)) ≤ 1))) else (some false)) = some r := h
  clear h
  by_cases c3 : (wrap64 (a0 - a1)) ≥ (-1)
  · rw [if_pos c3] at H
    have c3b0 : decide ((-1) ≤ (wrap64 (a0 - a1))) = true := decide_eq_true c3
    clear c3
    obtain rfl := Option.some.inj H
    go_enter Try.func15, Try.ntmps15
    go_wp2
    go_ret
    exact ⟨by first | rfl | (simp; done) | (simp [*]; done), by repeat (first | exact Drawn0.refl _ | apply Drawn0.step)⟩
  · rw [if_neg c3] at H
    have c3b0 : decide ((-1) ≤ (wrap64 (a0 - a1))) = false := decide_eq_false c3
    clear c3
    obtain rfl := Option.some.inj H
    go_enter Try.func15, Try.ntmps15
    go_wp2
    go_ret
    exact ⟨by first | rfl | (simp; done) | (simp [*]; done), by repeat (first | exact Drawn0.refl _ | apply Drawn0.step)⟩

/-! ### ntp4_timestamp_Duration: function 66 -/
def ntp4_timestamp_Duration.f (a0 : Int) : Option (Int) := some (wrap64 (IntKind.u64.wrap ((IntKind.u64.wrap ((a0 / 4294967296) * 1000000000)) + (IntKind.u64.wrap (((IntKind.u64.wrap ((Go.bits .and .u64 a0 4294967295) * 1000000000)) / 4294967296) + ((IntKind.u64.wrap ((Go.bits .and .u64 (IntKind.u64.wrap ((Go.bits .and .u64 a0 4294967295) * 1000000000)) 4294967295) + 2147483648)) / 4294967296))))))
set_option maxHeartbeats 8000000 in
set_option maxRecDepth 100000 in
theorem ntp4_timestamp_Duration.calls (a0 : Int) (r : Int) (w : World) (h : ntp4_timestamp_Duration.f a0 = some r) :
    Calls Try.prog 66 #[.int .u64 a0] w fun e w' => e = .returned (.int .i64 r) ∧ Drawn0 w w' := by
  have H : (some (wrap64 (IntKind.u64.wrap ((IntKind.u64.wrap ((a0 / 4294967296) * 1000000000)) + (IntKind.u64.wrap (((IntKind.u64.wrap ((Go.bits .and .u64 a0 4294967295) * 1000000000)) / 4294967296) + ((IntKind.u64.wrap ((Go.bits .and .u64 (IntKind.u64.wrap ((Go.bits .and .u64 a0 4294967295) * 1000000000)) 4294967295) + 2147483648)) / 4294967296))))))) = some r := h
  clear h
  obtain rfl := Option.some.inj H
  go_enter Try.func66, Try.ntmps66
  go_wp2
  go_ret
  exact ⟨by first | rfl | (simp; done) | (simp [*]; done), by repeat (first | exact Drawn0.refl _ | apply Drawn0.step)⟩

/-! ### ntp4_ZZDuration: function 45 -/
def ntp4_ZZDuration.f (a0 : Int) : Option (Int) := (ntp4_timestamp_Duration.f a0).bind fun t109 => (some t109)
set_option maxHeartbeats 8000000 in
set_option maxRecDepth 100000 in
theorem ntp4_ZZDuration.calls (a0 : Int) (r : Int) (w : World) (h : ntp4_ZZDuration.f a0 = some r) :
    Calls Try.prog 45 #[.int .u64 a0] w fun e w' => e = .returned (.int .i64 r) ∧ Drawn0 w w' := by
  have H : ((ntp4_timestamp_Duration.f a0).bind fun t109 => (some t109)) = some r := h
  clear h
  replace H := Option.bind_eq_some_iff.mp H
  obtain ⟨t109, A20, H⟩ := H
  replace H : (some t109) = some r := H
  have A2 := Aside0.mk A20
  clear A20
  obtain rfl := Option.some.inj H
  go_enter Try.func45, Try.ntmps45
  go_wp2_with (first | ((with_reducible refine gate_callee (f := 66) rfl ?_); refine goesL_ (some 4) rfl rfl Try.func66 (by kernel_rfl) rfl #[.int .u64 a0] rfl (by (try simp only [List.map_toArray, List.map_cons, List.map_nil]); first | done | rfl | (simp only [List.length_drop, List.length_take]; rfl)) ?_; (with_reducible refine (ntp4_timestamp_Duration.calls a0 t109 _ A2.out).mono ?_); rintro e w' ⟨rfl, ⟨nd, rfl⟩⟩; refine ⟨_, rfl, ?_⟩))
  go_ret
  exact ⟨by first | rfl | (simp; done) | (simp [*]; done), by repeat (first | exact Drawn0.refl _ | apply Drawn0.step)⟩

/-! ### impl_Duration: function 16 -/
def impl_Duration.f (a0 : Int) : Option (Int) := (ntp4_ZZDuration.f a0).bind fun t110 => (some t110)
set_option maxHeartbeats 8000000 in
set_option maxRecDepth 100000 in
theorem impl_Duration.calls (a0 : Int) (r : Int) (w : World) (h : impl_Duration.f a0 = some r) :
    Calls Try.prog 16 #[.int .u64 a0] w fun e w' => e = .returned (.int .i64 r) ∧ Drawn0 w w' := by
  have H : ((ntp4_ZZDuration.f a0).bind fun t110 => (some t110)) = some r := h
  clear h
  replace H := Option.bind_eq_some_iff.mp H
  obtain ⟨t110, A20, H⟩ := H
  replace H : (some t110) = some r := H
  have A2 := Aside0.mk A20
  clear A20
  obtain rfl := Option.some.inj H
  go_enter Try.func16, Try.ntmps16
  go_wp2_with (first | ((with_reducible refine gate_callee (f := 45) rfl ?_); refine goesL_ (some 4) rfl rfl Try.func45 (by kernel_rfl) rfl #[.int .u64 a0] rfl (by (try simp only [List.map_toArray, List.map_cons, List.map_nil]); first | done | rfl | (simp only [List.length_drop, List.length_take]; rfl)) ?_; (with_reducible refine (ntp4_ZZDuration.calls a0 t110 _ A2.out).mono ?_); rintro e w' ⟨rfl, ⟨nd, rfl⟩⟩; refine ⟨_, rfl, ?_⟩))
  go_ret
  exact ⟨by first | rfl | (simp; done) | (simp [*]; done), by repeat (first | exact Drawn0.refl _ | apply Drawn0.step)⟩

/-! ### ntp4_timeShortV4_Duration: function 67 -/
def ntp4_timeShortV4_Duration.f (a0 : Int) : Option (Int) := some (wrap64 (IntKind.u64.wrap ((IntKind.u64.wrap ((IntKind.u64.wrap (a0 / 65536)) * 1000000000)) + (IntKind.u64.wrap (((IntKind.u64.wrap ((IntKind.u64.wrap (Go.bits .and .u32 a0 65535)) * 1000000000)) / 65536) + ((IntKind.u64.wrap ((Go.bits .and .u64 (IntKind.u64.wrap ((IntKind.u64.wrap (Go.bits .and .u32 a0 65535)) * 1000000000)) 65535) + 32768)) / 65536))))))
set_option maxHeartbeats 8000000 in
set_option maxRecDepth 100000 in
theorem ntp4_timeShortV4_Duration.calls (a0 : Int) (r : Int) (w : World) (h : ntp4_timeShortV4_Duration.f a0 = some r) :
    Calls Try.prog 67 #[.int .u32 a0] w fun e w' => e = .returned (.int .i64 r) ∧ Drawn0 w w' := by
  have H : (some (wrap64 (IntKind.u64.wrap ((IntKind.u64.wrap ((IntKind.u64.wrap (a0 / 65536)) * 1000000000)) + (IntKind.u64.wrap (((IntKind.u64.wrap ((IntKind.u64.wrap (Go.bits .and .u32 a0 65535)) * 1000000000)) / 65536) + ((IntKind.u64.wrap ((Go.bits .and .u64 (IntKind.u64.wrap ((IntKind.u64.wrap (Go.bits .and .u32 a0 65535)) * 1000000000)) 65535) + 32768)) / 65536))))))) = some r := h
  clear h
  obtain rfl := Option.some.inj H
  go_enter Try.func67, Try.ntmps67
  go_wp2
  go_ret
  exact ⟨by first | rfl | (simp; done) | (simp [*]; done), by repeat (first | exact Drawn0.refl _ | apply Drawn0.step)⟩

/-! ### ntp4_ZZShort: function 46 -/
def ntp4_ZZShort.f (a0 : Int) : Option (Int) := (ntp4_timeShortV4_Duration.f a0).bind fun t111 => (some t111)
set_option maxHeartbeats 8000000 in
set_option maxRecDepth 100000 in
theorem ntp4_ZZShort.calls (a0 : Int) (r : Int) (w : World) (h : ntp4_ZZShort.f a0 = some r) :
    Calls Try.prog 46 #[.int .u32 a0] w fun e w' => e = .returned (.int .i64 r) ∧ Drawn0 w w' := by
  have H : ((ntp4_timeShortV4_Duration.f a0).bind fun t111 => (some t111)) = some r := h
  clear h
  replace H := Option.bind_eq_some_iff.mp H
  obtain ⟨t111, A20, H⟩ := H
  replace H : (some t111) = some r := H
  have A2 := Aside0.mk A20
  clear A20
  obtain rfl := Option.some.inj H
  go_enter Try.func46, Try.ntmps46
  go_wp2_with (first | ((with_reducible refine gate_callee (f := 67) rfl ?_); refine goesL_ (some 4) rfl rfl Try.func67 (by kernel_rfl) rfl #[.int .u32 a0] rfl (by (try simp only [List.map_toArray, List.map_cons, List.map_nil]); first | done | rfl | (simp only [List.length_drop, List.length_take]; rfl)) ?_; (with_reducible refine (ntp4_timeShortV4_Duration.calls a0 t111 _ A2.out).mono ?_); rintro e w' ⟨rfl, ⟨nd, rfl⟩⟩; refine ⟨_, rfl, ?_⟩))
  go_ret
  exact ⟨by first | rfl | (simp; done) | (simp [*]; done), by repeat (first | exact Drawn0.refl _ | apply Drawn0.step)⟩

/-! ### impl_Short: function 17 -/
def impl_Short.f (a0 : Int) : Option (Int) := (ntp4_ZZShort.f a0).bind fun t112 => (some t112)
set_option maxHeartbeats 8000000 in
set_option maxRecDepth 100000 in
theorem impl_Short.calls (a0 : Int) (r : Int) (w : World) (h : impl_Short.f a0 = some r) :
    Calls Try.prog 17 #[.int .u32 a0] w fun e w' => e = .returned (.int .i64 r) ∧ Drawn0 w w' := by
  have H : ((ntp4_ZZShort.f a0).bind fun t112 => (some t112)) = some r := h
  clear h
  replace H := Option.bind_eq_some_iff.mp H
  obtain ⟨t112, A20, H⟩ := H
  replace H : (some t112) = some r := H
  have A2 := Aside0.mk A20
  clear A20
  obtain rfl := Option.some.inj H
  go_enter Try.func17, Try.ntmps17
  go_wp2_with (first | ((with_reducible refine gate_callee (f := 46) rfl ?_); refine goesL_ (some 4) rfl rfl Try.func46 (by kernel_rfl) rfl #[.int .u32 a0] rfl (by (try simp only [List.map_toArray, List.map_cons, List.map_nil]); first | done | rfl | (simp only [List.length_drop, List.length_take]; rfl)) ?_; (with_reducible refine (ntp4_ZZShort.calls a0 t112 _ A2.out).mono ?_); rintro e w' ⟨rfl, ⟨nd, rfl⟩⟩; refine ⟨_, rfl, ?_⟩))
  go_ret
  exact ⟨by first | rfl | (simp; done) | (simp [*]; done), by repeat (first | exact Drawn0.refl _ | apply Drawn0.step)⟩

/-! ### spec_Power: function 18 -/
mutual
def spec_Power.l0 : Nat → Int → Int → Int → Int → Option (Int × Bool)
  | 0, _, _, _, _ => none
  | k + 1, x0, x4, x8, x9 => if x9 < x8 then (spec_Power.l0 k x0 (wrap64 (x4 * 2)) x8 (wrap64 (x9 + 1))) else (spec_Power.l1 k x4 (mx (wrap64 (-x0)) 0) 0)
def spec_Power.l1 : Nat → Int → Int → Int → Option (Int × Bool)
  | 0, _, _, _ => none
  | k + 1, x4, x16, x17 => if x17 < x16 then (spec_Power.l1 k (wrap64 (Int.tdiv x4 2)) x16 (wrap64 (x17 + 1))) else (some (x4, true))
end
def spec_Power.f (k : Nat) (a0 : Int) : Option (Int × Bool) := if a0 > 32 then (some (0, false)) else (spec_Power.l0 k a0 1000000000 (mx a0 0) 0)
theorem spec_Power.mono_l : ∀ k, (∀ y0 y1 y2 y3, LeO (spec_Power.l0 k y0 y1 y2 y3) (spec_Power.l0 (k + 1) y0 y1 y2 y3)) ∧ (∀ y0 y1 y2, LeO (spec_Power.l1 k y0 y1 y2) (spec_Power.l1 (k + 1) y0 y1 y2))
  | 0 => ⟨fun _ _ _ _ r h => by simp [spec_Power.l0] at h, fun _ _ _ r h => by simp [spec_Power.l1] at h⟩
  | k + 1 => by
    obtain ⟨ih0, ih1⟩ := spec_Power.mono_l k
    refine ⟨?_, ?_⟩
    · intro y0 y1 y2 y3
      unfold spec_Power.l0
      repeat' first
      | (with_reducible exact ih0 _ _ _ _)
      | (with_reducible exact ih1 _ _ _)
      | (with_reducible exact LeO.refl _)
      | (with_reducible exact LeO.none _)
      | (with_reducible refine LeO.ite ?_ ?_)
      | (with_reducible refine LeO.bind ?_ (fun _ => ?_))
      | exact ih0 _ _ _ _
      | exact ih1 _ _ _
      | exact LeO.none _
      | refine LeO.ite ?_ ?_
      | refine LeO.bind ?_ (fun _ => ?_)
    · intro y0 y1 y2
      unfold spec_Power.l1
      repeat' first
      | (with_reducible exact ih0 _ _ _ _)
      | (with_reducible exact ih1 _ _ _)
      | (with_reducible exact LeO.refl _)
      | (with_reducible exact LeO.none _)
      | (with_reducible refine LeO.ite ?_ ?_)
      | (with_reducible refine LeO.bind ?_ (fun _ => ?_))
      | exact ih0 _ _ _ _
      | exact ih1 _ _ _
      | exact LeO.none _
      | refine LeO.ite ?_ ?_
      | refine LeO.bind ?_ (fun _ => ?_)
theorem spec_Power.mono : ∀ a0 k, LeO (spec_Power.f k a0) (spec_Power.f (k + 1) a0) := by
  intro a0 k
  obtain ⟨ih0, ih1⟩ := spec_Power.mono_l k
  unfold spec_Power.f
  repeat' first
      | (with_reducible exact ih0 _ _ _ _)
      | (with_reducible exact ih1 _ _ _)
      | (with_reducible exact LeO.refl _)
      | (with_reducible exact LeO.none _)
      | (with_reducible refine LeO.ite ?_ ?_)
      | (with_reducible refine LeO.bind ?_ (fun _ => ?_))
      | exact ih0 _ _ _ _
      | exact ih1 _ _ _
      | exact LeO.none _
      | refine LeO.ite ?_ ?_
      | refine LeO.bind ?_ (fun _ => ?_)
set_option maxHeartbeats 8000000 in
set_option maxRecDepth 100000 in
theorem spec_Power.calls (k : Nat) (a0 : Int) (r1 : Int) (r2 : Bool) (w : World) (h : spec_Power.f k a0 = some (r1, r2)) :
    Calls Try.prog 18 #[.int .i64 a0] w fun e w' => e = .returned (.tuple #[.int .i64 r1, .bool r2]) ∧ Below w.heap.size w w' := by
  have HB := Aside0.mk (Below.refl w.heap.size w)
  have H : (if a0 > 32 then (some (0, false)) else (spec_Power.l0 k a0 1000000000 (mx a0 0) 0)) = some (r1, r2) := h
  clear h
  by_cases c2 : a0 > 32
  · rw [if_pos c2] at H
    have c2b0 : decide (32 < a0) = true := decide_eq_true c2
    clear c2
    simp only [Option.some.injEq, Prod.mk.injEq] at H
    obtain ⟨rfl, rfl⟩ := H
    go_enter Try.func18, Try.ntmps18
    go_wp2
    go_ret2
    exact ⟨by first | rfl | (simp [errW_none, errW_some] <;> rfl) | (simp [*, errW_none, errW_some] <;> rfl), by repeat (first | (with_reducible first | exact HB.out | apply below_alloc | apply pw_below_drewN | apply below_drew1) | exact HB.out)⟩
  · rw [if_neg c2] at H
    have c2b0 : decide (32 < a0) = false := decide_eq_false c2
    clear c2
    obtain ⟨ji3, hji3⟩ : ∃ j_ : Int, (mx a0 0) = j_ := ⟨_, rfl⟩
    replace H : (spec_Power.l0 k a0 1000000000 ji3 0) = some (r1, r2) := by first | (rw [hji3] at H; exact H) | (simp only [hji3] at H ⊢; exact H)
    (try (have hji3l : 0 ≤ ji3 := by (rw [← hji3]; unfold mx; (repeat' split) <;> omega)))
    (try (have hji3m : 0 ≤ ji3 := by omega))
    have hji3_ : (if a0 < 0 then 0 else a0) = ji3 := hji3
    have H' := Aside0.mk H
    clear H
    go_enter Try.func18, Try.ntmps18
    go_wp2
    go_loopg [4, 9] k (fun kq v4 v9 w' => ∃ (x4_1 : Int) (x9_1 : Int), v4 = .int .i64 x4_1 ∧ v9 = .int .i64 x9_1 ∧ Aside0 (spec_Power.l0 kq a0 x4_1 ji3 x9_1 = some (r1, r2)) ∧ Aside0 (kq ≤ k) ∧ Aside0 (Below w.heap.size w w'))
    case atStart => exact ⟨(1000000000), (0), (by first | rfl | (simp; done) | (simp [*]; done)), (by first | rfl | (simp; done) | (simp [*]; done)), H', ⟨Nat.le_refl _⟩, ⟨by repeat (first | (with_reducible first | exact HB.out | apply below_alloc | apply pw_below_drewN | apply below_drew1) | exact HB.out)⟩⟩
    case round =>
      clear H'
      try clear c1
      try clear c2
      try clear c2b0
      try clear p2
      obtain ⟨x4_1, x9_1, rfl, rfl, HA, HK1, HB⟩ := hrel
      cases gk with
      | zero => exact absurd HA.out (by simp [spec_Power.l0])
      | succ k1 =>
        have H := HA.out
        clear HA
        simp only [spec_Power.l0] at H
        by_cases c4 : x9_1 < ji3
        · rw [if_pos c4] at H
          have c4b0 : decide (x9_1 < ji3) = true := decide_eq_true c4
          clear c4
          have H' := Aside0.mk H
          clear H
          go_wp2
          go_roundg k1
          case measure => have := HK1.out; omega
          case rel => exact ⟨(wrap64 (x4_1 * 2)), (wrap64 (x9_1 + 1)), (by first | rfl | (simp; done) | (simp [*]; done)), (by first | rfl | (simp; done) | (simp [*]; done)), H', ⟨by have := HK1.out; omega⟩, ⟨by repeat (first | (with_reducible first | exact HB.out | apply below_alloc | apply pw_below_drewN | apply below_drew1) | exact HB.out)⟩⟩
        · rw [if_neg c4] at H
          have c4b0 : decide (x9_1 < ji3) = false := decide_eq_false c4
          clear c4
          obtain ⟨ji5, hji5⟩ : ∃ j_ : Int, (mx (wrap64 (-a0)) 0) = j_ := ⟨_, rfl⟩
          replace H : (spec_Power.l1 k1 x4_1 ji5 0) = some (r1, r2) := by first | (rw [hji5] at H; exact H) | (simp only [hji5] at H ⊢; exact H)
          have hji5_ : (if (wrap64 (-a0)) < 0 then 0 else (wrap64 (-a0))) = ji5 := hji5
          have H' := Aside0.mk H
          clear H
          go_wp2
          go_loopg [4, 17] k1 (fun kq v4 v17 w' => ∃ (x4_2 : Int) (x17_2 : Int), v4 = .int .i64 x4_2 ∧ v17 = .int .i64 x17_2 ∧ Aside0 (spec_Power.l1 kq x4_2 ji5 x17_2 = some (r1, r2)) ∧ Aside0 (kq ≤ k1) ∧ Aside0 (Below w.heap.size w w'))
          case atStart => exact ⟨(x4_1), (0), (by first | rfl | (simp; done) | (simp [*]; done)), (by first | rfl | (simp; done) | (simp [*]; done)), H', ⟨Nat.le_refl _⟩, ⟨by repeat (first | (with_reducible first | exact HB.out | apply below_alloc | apply pw_below_drewN | apply below_drew1) | exact HB.out)⟩⟩
          case round =>
            clear H'
            try clear c1
            try clear c2
            try clear c2b0
            try clear p2
            try clear c4
            try clear c4b0
            try clear p2
            obtain ⟨x4_2, x17_2, rfl, rfl, HA, HK2, HB⟩ := hrel
            cases gk with
            | zero => exact absurd HA.out (by simp [spec_Power.l1])
            | succ k2 =>
              have H := HA.out
              clear HA
              simp only [spec_Power.l1] at H
              by_cases c6 : x17_2 < ji5
              · rw [if_pos c6] at H
                have c6b0 : decide (x17_2 < ji5) = true := decide_eq_true c6
                clear c6
                have H' := Aside0.mk H
                clear H
                go_wp2
                go_roundg k2
                case measure => have := HK1.out; have := HK2.out; omega
                case rel => exact ⟨(wrap64 (Int.tdiv x4_2 2)), (wrap64 (x17_2 + 1)), (by first | rfl | (simp; done) | (simp [*]; done)), (by first | rfl | (simp; done) | (simp [*]; done)), H', ⟨by have := HK1.out; have := HK2.out; omega⟩, ⟨by repeat (first | (with_reducible first | exact HB.out | apply below_alloc | apply pw_below_drewN | apply below_drew1) | exact HB.out)⟩⟩
              · rw [if_neg c6] at H
                have c6b0 : decide (x17_2 < ji5) = false := decide_eq_false c6
                clear c6
                simp only [Option.some.injEq, Prod.mk.injEq] at H
                obtain ⟨rfl, rfl⟩ := H
                go_wp2
                go_ret2
                exact ⟨by first | rfl | (simp [errW_none, errW_some] <;> rfl) | (simp only [← hji3, ← hji5]; first | rfl | (simp [errW_none, errW_some] <;> rfl)) | (simp [*, errW_none, errW_some] <;> rfl), by repeat (first | (with_reducible first | exact HB.out | apply below_alloc | apply pw_below_drewN | apply below_drew1) | exact HB.out)⟩

end Go.Proofs.Ytaanpoankljblaa.PFnDurations
