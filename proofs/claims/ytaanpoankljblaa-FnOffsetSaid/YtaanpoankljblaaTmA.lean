/- Times without a reading of a monotonic clock: the parts that take a pointer. -/
import Derived.Test.YtaanpoankljblaaRdI
import Derived.Laws.BitsAllLaws
import Derived.Laws.MathBits
namespace Go.Proofs.Ytaanpoankljblaa.TmA
open Go.RowKit Go.Proofs.Ytaanpoankljblaa.FmtA Go.Proofs.Ytaanpoankljblaa.FmtB Go.Proofs.Ytaanpoankljblaa.RdF Go.Proofs.Ytaanpoankljblaa.RdD
set_option linter.unusedVariables false
set_option linter.unusedSimpArgs false

theorem nat_low (a : Nat) (h : a < 1073741824) : a &&& 1073741823 = a := by
  have e : (1073741823 : Nat) = 2 ^ 30 - 1 := by decide
  rw [e, Nat.and_two_pow_sub_one_eq_mod, Nat.mod_eq_of_lt (by simpa using h)]
theorem nat_hi (a : Nat) (h : a < 1073741824) : a &&& 9223372036854775808 = 0 := by
  rw [← nat_low a h, Nat.and_assoc, show (1073741823 : Nat) &&& 9223372036854775808 = 0 by decide, Nat.and_zero]
theorem hi0 (n : Int) (n0 : 0 ≤ n) (n1 : n < 1073741824) : bits .and .u64 n 9223372036854775808 = 0 := by
  rw [show bits .and .u64 n 9223372036854775808 = ((n.toNat &&& (9223372036854775808 : Int).toNat : Nat) : Int) from u64_and n _ n0 (by omega) (by decide) (by decide)]
  rw [show (9223372036854775808 : Int).toNat = 9223372036854775808 from rfl, nat_hi _ (by omega)]
  rfl
theorem lo30 (n : Int) (n0 : 0 ≤ n) (n1 : n < 1073741824) : bits .and .u64 n 1073741823 = n := by
  rw [show bits .and .u64 n 1073741823 = ((n.toNat &&& (1073741823 : Int).toNat : Nat) : Int) from u64_and n _ n0 (by omega) (by decide) (by decide)]
  rw [show (1073741823 : Int).toNat = 1073741823 from rfl, nat_low _ (by omega)]
  omega
theorem both0 (n m : Int) (n0 : 0 ≤ n) (n1 : n < 1073741824) (m0 : 0 ≤ m) (m1 : m < 1073741824) : bits .and .u64 (bits .and .u64 n m) 9223372036854775808 = 0 := by
  rw [show bits .and .u64 n m = ((n.toNat &&& m.toNat : Nat) : Int) from u64_and n _ n0 (by omega) m0 (by omega)]
  have : n.toNat &&& m.toNat ≤ n.toNat := Nat.and_le_left
  exact hi0 _ (by omega) (by omega)
theorem not30 (n : Int) (n0 : 0 ≤ n) (n1 : n < 1073741824) : bits .andNot .u64 n 1073741823 = 0 := by
  rw [show bits .andNot .u64 n 1073741823 = ((n.toNat &&& (18446744073709551615 - (1073741823 : Int).toNat) : Nat) : Int) from u64_andNot n _ n0 (by omega) (by decide) (by decide)]
  rw [show 18446744073709551615 - (1073741823 : Int).toNat = 18446744072635809792 from rfl, ← nat_low n.toNat (by omega), Nat.and_assoc, show (1073741823 : Nat) &&& 18446744072635809792 = 0 by decide, Nat.and_zero]
  rfl
theorem or0 (m : Int) (m0 : 0 ≤ m) (m1 : m < 18446744073709551616) : bits .or .u64 0 m = m := by
  rw [show bits .or .u64 0 m = (((0 : Int).toNat ||| m.toNat : Nat) : Int) from u64_or 0 m (by decide) (by decide) m0 m1]
  simp
  omega
theorem ne0 {x : Int} (h : x = 0) : (x != 0) = false := by simp [h]

/-- A time's cells: nanoseconds, seconds since the year 1, no place. -/
def tm (n s : Int) : Array Value := #[.int .u64 n, .int .i64 s, .pointer none]

theorem tm_cells {n s : Int} {w : World} {B : Nat} {T : TypeId} (h : w.heap[B]? = some (.cells (tm n s) T (0, 0))) :
    w.cell? ⟨B, 0, none⟩ = some (.int .u64 n) ∧ w.cell? ⟨B, 1, none⟩ = some (.int .i64 s) ∧ w.cell? ⟨B, 2, none⟩ = some (.pointer none) := by
  refine ⟨?_, ?_, ?_⟩ <;> (unfold World.cell?; rw [h]; rfl)

theorem tm_free {cs : Array Value} {w : World} {B k : Nat} {T : TypeId} (h : w.heap[B]? = some (.cells cs T (0, 0))) : w.frozen? ⟨B, k, none⟩ = false := by
  unfold World.frozen?
  rw [h]
  simp

theorem sec_any (g : Nat) (n s : Int) (w : World) (h : w.heap[g]? = some (.cells (tm n s) 92 (0, 0))) (n0 : 0 ≤ n) (n1 : n < 1073741824) :
    Calls Try.prog 105 #[.pointer (some ⟨g, 0, none⟩)] w fun e w' => e = .returned (.int .i64 s) ∧ w' = w := by
  obtain ⟨c0, c1, c2⟩ := tm_cells h
  have b0 := ne0 (hi0 n n0 n1)
  go_enter Try.func105, Try.ntmps105
  go_wp2_with fail
  go_ret
  exact ⟨rfl, rfl⟩

theorem nsec_any (g : Nat) (n s : Int) (w : World) (h : w.heap[g]? = some (.cells (tm n s) 92 (0, 0))) (n0 : 0 ≤ n) (n1 : n < 1073741824) :
    Calls Try.prog 98 #[.pointer (some ⟨g, 0, none⟩)] w fun e w' => e = .returned (.int .i32 n) ∧ w' = w := by
  obtain ⟨c0, c1, c2⟩ := tm_cells h
  have b0 := lo30 n n0 n1
  have e : IntKind.i32.wrap n = n := by rw [IntKind.wrap_i32]; omega
  go_enter Try.func98, Try.ntmps98
  go_wp2_with fail
  go_ret
  exact ⟨rfl, rfl⟩

theorem usec_any (g : Nat) (n s : Int) (w : World) (h : w.heap[g]? = some (.cells (tm n s) 92 (0, 0))) (n0 : 0 ≤ n) (n1 : n < 1073741824) (s0 : -1000000000000000000 ≤ s) (s1 : s < 1000000000000000000) :
    Calls Try.prog 97 #[.pointer (some ⟨g, 0, none⟩)] w fun e w' => e = .returned (.int .i64 (s + -62135596800)) ∧ w' = w := by
  have H := sec_any g n s w h n0 n1
  go_enter Try.func97, Try.ntmps97
  go_wp2_with fail
  refine H.mono ?_
  rintro e w' ⟨rfl, rfl⟩
  go_wp2_with fail
  go_ret
  exact ⟨rfl, rfl⟩

theorem strip_any (g : Nat) (n s : Int) (w : World) (h : w.heap[g]? = some (.cells (tm n s) 92 (0, 0))) (n0 : 0 ≤ n) (n1 : n < 1073741824) :
    Calls Try.prog 108 #[.pointer (some ⟨g, 0, none⟩)] w fun e w' => e = .returned (.tuple #[]) ∧ w' = w := by
  obtain ⟨c0, c1, c2⟩ := tm_cells h
  have b0 := ne0 (hi0 n n0 n1)
  go_enter Try.func108, Try.ntmps108
  go_wp2_with fail
  exact bodyPost_end (results_none (by rfl) _ _ _) rfl ⟨rfl, rfl⟩

theorem addSec_any (g : Nat) (n s d : Int) (w : World) (h : w.heap[g]? = some (.cells (tm n s) 92 (0, 0))) (n0 : 0 ≤ n) (n1 : n < 1073741824) (s0 : -1000000000000000000 ≤ s) (s1 : s < 1000000000000000000) (d0 : -1000000000000000000 ≤ d) (d1 : d < 1000000000000000000) :
    Calls Try.prog 110 #[.pointer (some ⟨g, 0, none⟩), .int .i64 d] w fun e w' => e = .returned (.tuple #[]) ∧ w' = w.setCell ⟨g, 1, none⟩ (.int .i64 (s + d)) := by
  obtain ⟨c0, c1, c2⟩ := tm_cells h
  have b0 := ne0 (hi0 n n0 n1)
  have hd : (decide (s < s + d) == decide (0 < d)) = true := by
    rw [beq_iff_eq, decide_eq_decide]
    omega
  have f1 : w.frozen? ⟨g, 1, none⟩ = false := tm_free h
  go_enter Try.func110, Try.ntmps110
  go_wp2_with fail
  exact bodyPost_end (results_none (by rfl) _ _ _) rfl ⟨rfl, rfl⟩

/-- The cells of UTC's place. -/
def utcCells : Array Value := #[.bool true, .string { data := #[85, 84, 67] }, .slice none 0 0, .slice none 0 0, .string { data := #[] }, .int .i64 0, .int .i64 0, .pointer none]

theorem utc_any (w : World) : Calls Try.prog 96 #[] w fun e w' => e = .returned (.pointer (some ⟨w.heap.size, 0, none⟩)) ∧ w' = w.alloc (.cells utcCells 154) := by
  go_enter Try.func96, Try.ntmps96
  go_wp2_with fail
  go_ret
  exact ⟨rfl, rfl⟩

theorem unixTime_any (s n : Int) (w : World) (n0 : 0 ≤ n) (n1 : n < 1073741824) (s0 : -1000000000000000000 ≤ s) (s1 : s < 1000000000000000000) :
    Calls Try.prog 94 #[.int .i64 s, .int .i32 n] w fun e w' => e = .returned (.agg (tm n (s + 62135596800))) ∧ w' = w.alloc (.cells (tm n (s + 62135596800)) 92) := by
  go_enter Try.func94, Try.ntmps94
  go_wp2_with fail
  exact bodyPost_ret (v := .agg (tm n (s + 62135596800))) (by simp [results, Try.results94, go_sem, tm]) rfl ⟨rfl, rfl⟩

theorem utc_cells {w : World} {B : Nat} {T : TypeId} (h : w.heap[B]? = some (.cells utcCells T (0, 0))) : w.cell? ⟨B, 0, none⟩ = some (.bool true) := by
  unfold World.cell?; rw [h]; rfl

theorem setLoc_any (g L : Nat) (n s : Int) (w : World) (h : w.heap[g]? = some (.cells (tm n s) 92 (0, 0))) (hL : w.heap[L]? = some (.cells utcCells 154 (0, 0))) (n0 : 0 ≤ n) (n1 : n < 1073741824) :
    Calls Try.prog 95 #[.pointer (some ⟨g, 0, none⟩), .pointer (some ⟨L, 0, none⟩)] w fun e w' => e = .returned (.tuple #[]) ∧ w' = w.setCell ⟨g, 2, none⟩ (.pointer none) := by
  obtain ⟨c0, c1, c2⟩ := tm_cells h
  have u0 := utc_cells hL
  have f1 : w.frozen? ⟨g, 2, none⟩ = false := tm_free h
  have H := strip_any g n s w h n0 n1
  go_enter Try.func95, Try.ntmps95
  go_wp2_with fail
  refine H.mono ?_
  rintro e w' ⟨rfl, rfl⟩
  go_wp2_with fail
  exact bodyPost_end (results_none (by rfl) _ _ _) rfl ⟨rfl, rfl⟩

theorem alloc_at {W : World} {o : Obj} {k : Nat} (h : k = W.heap.size) : (W.alloc o).heap[k]? = some o := h ▸ heap_alloc_new W o
theorem alloc_old {W : World} {o p : Obj} {k : Nat} (h : W.heap[k]? = some p) : (W.alloc o).heap[k]? = some p := (Below.heap_alloc _ _ _ (Array.getElem?_eq_some_iff.1 h).1).trans h

theorem toUTC_any (n s : Int) (w : World) (n0 : 0 ≤ n) (n1 : n < 1073741824) :
    Calls Try.prog 80 #[.agg (tm n s)] w fun e w' => e = .returned (.agg (tm n s)) ∧ w' = ((w.alloc (.cells (tm n s) 92)).alloc (.cells (tm n s) 92)).alloc (.cells utcCells 154) := by
  unfold tm
  go_enter Try.func80, Try.ntmps80
  go_wp2_with fail
  refine (utc_any _).mono ?_
  rintro e w' ⟨rfl, rfl⟩
  go_wp2_with fail
  refine (setLoc_any w.heap.size _ n s _ (by unfold tm; exact alloc_old (alloc_old (alloc_at rfl))) (by exact alloc_at (by simp)) n0 n1).mono ?_
  rintro e w' ⟨rfl, rfl⟩
  go_wp2_with fail
  exact bodyPost_ret (v := .agg (tm n s)) (by simp [results, Try.results80, go_sem, tm]) rfl ⟨rfl, rfl⟩

theorem Unix_any (s n : Int) (w : World) (n0 : 0 ≤ n) (n1 : n < 1000000000) (s0 : -1000000000000000000 ≤ s) (s1 : s < 1000000000000000000) :
    Calls Try.prog 79 #[.int .i64 s, .int .i64 n] w fun e w' => e = .returned (.agg (tm n (s + 62135596800))) ∧ w' = (w.alloc (.cells (tm n (s + 62135596800)) 92)).alloc (.cells (tm n (s + 62135596800)) 92) := by
  unfold tm
  go_enter Try.func79, Try.ntmps79
  go_wp2_with fail
  refine (unixTime_any _ _ _ n0 (by omega) s0 s1).mono ?_
  rintro e w' ⟨rfl, rfl⟩
  unfold tm
  go_wp2_with fail
  exact bodyPost_ret (v := .agg (tm n (s + 62135596800))) (by simp [results, Try.results79, go_sem, tm]) rfl ⟨rfl, rfl⟩

theorem given_any (s n : Int) (w : World) (n0 : 0 ≤ n) (n1 : n < 1000000000) (s0 : -1000000000000000000 ≤ s) (s1 : s < 1000000000000000000) :
    Calls Try.prog 56 #[.agg #[.int .i64 s, .int .i64 n]] w fun e w' => e = .returned (.agg (tm n (s + 62135596800))) ∧ Below w.heap.size w w' := by
  go_enter Try.func56, Try.ntmps56
  go_wp2_with fail
  refine (Unix_any _ _ _ n0 n1 s0 s1).mono ?_
  rintro e w1 ⟨rfl, rfl⟩
  unfold tm
  go_wp2_with fail
  refine (toUTC_any _ _ _ n0 (by omega)).mono ?_
  rintro e w2 ⟨rfl, rfl⟩
  unfold tm
  go_wp2_with fail
  exact bodyPost_ret (v := .agg (tm n (s + 62135596800))) (by simp [results, Try.results56, go_sem, tm]) rfl ⟨rfl, alc (alc (alc (alc (alc (alc (alc (Below.refl _ _) _) _) _) _) _) _) _⟩

theorem tUnix_any (n s : Int) (w : World) (n0 : 0 ≤ n) (n1 : n < 1073741824) (s0 : -1000000000000000000 ≤ s) (s1 : s < 1000000000000000000) :
    Calls Try.prog 83 #[.agg (tm n s)] w fun e w' => e = .returned (.int .i64 (s + -62135596800)) ∧ w' = w.alloc (.cells (tm n s) 92) := by
  unfold tm
  go_enter Try.func83, Try.ntmps83
  go_wp2_with fail
  refine (usec_any w.heap.size n s _ (by unfold tm; exact alloc_at rfl) n0 n1 s0 s1).mono ?_
  rintro e w2 ⟨rfl, rfl⟩
  go_wp2_with fail
  go_ret
  exact ⟨rfl, rfl⟩

theorem tNano_any (n s : Int) (w : World) (n0 : 0 ≤ n) (n1 : n < 1073741824) :
    Calls Try.prog 84 #[.agg (tm n s)] w fun e w' => e = .returned (.int .i64 n) ∧ w' = w.alloc (.cells (tm n s) 92) := by
  unfold tm
  go_enter Try.func84, Try.ntmps84
  go_wp2_with fail
  refine (nsec_any w.heap.size n s _ (by unfold tm; exact alloc_at rfl) n0 n1).mono ?_
  rintro e w2 ⟨rfl, rfl⟩
  go_wp2_with fail
  go_ret
  exact ⟨rfl, rfl⟩

set_option maxHeartbeats 1600000 in
theorem plain_any (n s : Int) (w : World) (n0 : 0 ≤ n) (n1 : n < 1073741824) (s0 : -1000000000000000000 ≤ s) (s1 : s < 1000000000000000000) :
    Calls Try.prog 59 #[.agg (tm n s)] w fun e w' => e = .returned (.agg #[.int .i64 (s + -62135596800), .int .i64 n]) ∧ Below w.heap.size w w' := by
  unfold tm
  go_enter Try.func59, Try.ntmps59
  go_wp2_with fail
  go_region_with (first | (go_at_call 83; refine (tUnix_any n s _ n0 n1 s0 s1).mono ?_; rintro e w1 ⟨rfl, rfl⟩; unfold tm) | (go_at_call 84; refine (tNano_any _ s _ n0 n1).mono ?_; rintro e w2 ⟨rfl, rfl⟩; unfold tm))
  all_goals
    go_ways
    go_wp2_with fail
    exact bodyPost_ret (v := .agg #[.int .i64 (s + -62135596800), .int .i64 n]) (by simp [results, Try.results59, go_sem]) rfl ⟨rfl, by repeat (first | exact Below.refl _ _ | apply Below.drew | (refine Below.alloc ?_ (by simp <;> omega) _))⟩

end Go.Proofs.Ytaanpoankljblaa.TmA
