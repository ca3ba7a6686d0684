/- The bytes of a number, the highest one first. -/
import Derived.Test.YtaanpoankljblaaProg
import Derived.WalkKit
import Derived.Below
import Derived.KernelRfl
import Derived.RowKit3
import Derived.LoopN
import Derived.Outline
import Derived.WalkSpells
import Derived.WalkLawsBesides
import Derived.Laws.BitsLemmas
namespace Go.Proofs.Ytaanpoankljblaa.High
open Go.RowKit
set_option linter.unusedVariables false
set_option linter.unusedSimpArgs false

set_option maxHeartbeats 400000 in
/-- high(n, 4): a new block of four bytes. -/
theorem high4 (n : Int) (w : World) :
    Calls Try.prog 43 #[.int .u64 n, .int .i64 4] w fun e w' => e = .returned (.slice (some ⟨w.heap.size, 0, none⟩) 4 4) ∧ w.alloc (.cells #[.int .u8 (n / 256 / 256 / 256 % 256), .int .u8 (n / 256 / 256 % 256), .int .u8 (n / 256 % 256), .int .u8 (n % 256)] 5) = w' := by
  have hmk : ∀ w, (Instr.makeSlice 40 (.int .i64 4) (.int .i64 4)).run Try.prog w = .ok (.slice (some ⟨w.heap.size, 0, none⟩) 4 4) (w.alloc (.cells #[.int .u8 0, .int .u8 0, .int .u8 0, .int .u8 0] 5)) := fun _ => by kernel_rfl
  go_enter Try.func43, Try.ntmps43
  go_wp2
  refine wp_loop_rounds 5 ?_
  iterate 5 (rw [rounds_succ]; go_wp2)
  go_ret
  exact ⟨rfl, rfl⟩

set_option maxHeartbeats 400000 in
/-- high(n, 8): a new block of eight bytes. -/
theorem high8 (n : Int) (w : World) :
    Calls Try.prog 43 #[.int .u64 n, .int .i64 8] w fun e w' => e = .returned (.slice (some ⟨w.heap.size, 0, none⟩) 8 8) ∧ w.alloc (.cells #[.int .u8 (n / 256 / 256 / 256 / 256 / 256 / 256 / 256 % 256), .int .u8 (n / 256 / 256 / 256 / 256 / 256 / 256 % 256), .int .u8 (n / 256 / 256 / 256 / 256 / 256 % 256), .int .u8 (n / 256 / 256 / 256 / 256 % 256), .int .u8 (n / 256 / 256 / 256 % 256), .int .u8 (n / 256 / 256 % 256), .int .u8 (n / 256 % 256), .int .u8 (n % 256)] 5) = w' := by
  have hmk : ∀ w, (Instr.makeSlice 40 (.int .i64 8) (.int .i64 8)).run Try.prog w = .ok (.slice (some ⟨w.heap.size, 0, none⟩) 8 8) (w.alloc (.cells #[.int .u8 0, .int .u8 0, .int .u8 0, .int .u8 0, .int .u8 0, .int .u8 0, .int .u8 0, .int .u8 0] 5)) := fun _ => by kernel_rfl
  go_enter Try.func43, Try.ntmps43
  go_wp2
  refine wp_loop_rounds 9 ?_
  iterate 9 (rw [rounds_succ]; go_wp2)
  go_ret
  exact ⟨rfl, rfl⟩

end Go.Proofs.Ytaanpoankljblaa.High
