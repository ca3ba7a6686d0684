/- The statements' own check that the package answers at all: Interval(0) is one second. -/
import Derived.Test.YtaanpoankljblaaProg
import Derived.WalkKit
import Derived.Below
import Derived.KernelRfl
import Derived.RowKit3
import Derived.LoopN
import Derived.Outline
import Derived.WalkSpells
import Derived.WalkLawsBesides
namespace Go.Proofs.Ytaanpoankljblaa.Works
open Go.RowKit
set_option linter.unusedVariables false
set_option linter.unusedSimpArgs false

set_option maxHeartbeats 400000 in
theorem works_any (w : World) : Calls Try.prog 13 #[] w fun e w' => e = .returned (.bool true) ∧ Below w.heap.size w w' := by
  go_enter Try.func13, Try.ntmps13
  go_wp2
  refine wp_loop_rounds 2 ?_
  iterate 2 (rw [rounds_succ]; go_wp2)
  go_ret
  exact ⟨rfl, by repeat (first | exact Below.refl _ _ | apply Below.drew | (refine Below.alloc ?_ (by simp) _))⟩
end Go.Proofs.Ytaanpoankljblaa.Works
