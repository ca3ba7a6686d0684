/- kissCode at four great letters, and Letters. -/
import Derived.Test.YtaanpoankljblaaHigh
import Derived.Test.YtaanpoankljblaaWorks
import Derived.Laws.IdiomArrays
import Derived.Laws.Rows
import Derived.Lib.ConvBytes
namespace Go.Proofs.Ytaanpoankljblaa.KissA
open Go.RowKit
set_option linter.unusedVariables false
set_option linter.unusedSimpArgs false

set_option maxHeartbeats 400000 in
theorem printable (n : Int) (w : World) (h0 : 65 ≤ n) (h1 : n ≤ 90) :
    Calls Try.prog 89 #[.int .u8 n] w fun e w' => e = .returned (.bool true) ∧ w = w' := by
  have t1 : decide (32 ≤ n) = true := decide_eq_true (by omega)
  have t2 : decide (n ≤ 126) = true := decide_eq_true (by omega)
  go_enter Try.func89, Try.ntmps89
  go_wp2
  go_ret
  exact ⟨rfl, rfl⟩

theorem to_string (n : Nat) (a b c d : Int) (T : TypeId) (w : World) : (convert 40 9 (.slice (some ⟨w.heap.size, 0, none⟩) 4 4)).run Try.prog (w.alloc (.cells #[.int .u8 a, .int .u8 b, .int .u8 c, .int .u8 d] T)) = .ok (.string (strOfNums [a, b, c, d])) (w.alloc (.cells #[.int .u8 a, .int .u8 b, .int .u8 c, .int .u8 d] T)) := by
  refine run_convert_bytes_arg _ 40 5 Try.underlying40 Try.underlying5 w.heap.size 0 4 4 [a, b, c, d] rfl (fun i hi => ?_) 9 Try.underlying9
  match i, hi with
  | 0, _ => go_simp
  | 1, _ => go_simp
  | 2, _ => go_simp
  | 3, _ => go_simp
set_option maxHeartbeats 400000 in
theorem kiss_any (n : Int) (w : World) (ha : 65 ≤ n / 16777216 % 256) (ha' : n / 16777216 % 256 ≤ 90) (hb : 65 ≤ n / 65536 % 256) (hb' : n / 65536 % 256 ≤ 90) 
    (hc : 65 ≤ n / 256 % 256) (hc' : n / 256 % 256 ≤ 90) (hd : 65 ≤ n % 256) (hd' : n % 256 ≤ 90):
    Calls Try.prog 65 #[.int .u32 n] w fun e w' => e = .returned (.string (strOfNums [n / 16777216 % 256, n / 65536 % 256, n / 256 % 256, n % 256])) ∧ Below w.heap.size w w' := by
  have i0 : ∀ (x0 x1 x2 x3 : Value) w, (Instr.index 128 (.agg #[x0, x1, x2, x3]) (.int .i64 0)).run Try.prog w = .ok x0 w := fun _ _ _ _ _ => by kernel_rfl
  have i1 : ∀ (x0 x1 x2 x3 : Value) w, (Instr.index 128 (.agg #[x0, x1, x2, x3]) (.int .i64 1)).run Try.prog w = .ok x1 w := fun _ _ _ _ _ => by kernel_rfl
  have i2 : ∀ (x0 x1 x2 x3 : Value) w, (Instr.index 128 (.agg #[x0, x1, x2, x3]) (.int .i64 2)).run Try.prog w = .ok x2 w := fun _ _ _ _ _ => by kernel_rfl
  have i3 : ∀ (x0 x1 x2 x3 : Value) w, (Instr.index 128 (.agg #[x0, x1, x2, x3]) (.int .i64 3)).run Try.prog w = .ok x3 w := fun _ _ _ _ _ => by kernel_rfl
  go_enter Try.func65, Try.ntmps65
  go_wp2_with fail
  refine wp_loop_rounds 5 ?_
  iterate 4 (rw [rounds_succ]; go_wp2_with fail; refine (printable _ _ (by omega) (by omega)).mono ?_; rintro e w' ⟨rfl, rfl⟩; go_wp2_with fail)
  have ht := to_string 0 (n / 16777216 % 256) (n / 65536 % 256) (n / 256 % 256) (n % 256) 128 w
  clear ha ha' hb hb' hc hc' hd hd' i0 i1 i2 i3
  rw [rounds_succ]
  go_wp2_with fail
  go_ret
  exact ⟨rfl, by repeat (first | exact Below.refl _ _ | apply Below.drew | (refine Below.alloc ?_ (by simp) _))⟩
end Go.Proofs.Ytaanpoankljblaa.KissA
