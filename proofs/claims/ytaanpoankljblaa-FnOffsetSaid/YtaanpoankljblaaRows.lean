/-
  No cell of these rows narrows 'for every input' (looked for: loops, veiled, ifaces, maps, wideKeys, modest, calm, conditions, laid).
  DERIVED. THE GIVEN ROWS OF THIS SEAT. 8 by the template 'for every input the law returns true; each argument reads behind the call as it read before'; 0 by the template 'total and deterministic' (their statements: YtaanpoankljblaaTotals.lean).
  GIVEN WITH THE SEED: the statements are not yours to turn. If you find one false, say at which input.
  Laid BY PROGRAM, IN A SANDBOX (cutbox-rows.mjs): the forced cells as the released guide's own fill.sh prints them over the translation 16f63b47ebe8b0d3… (all of the seat's roots in one cut). By AI agents, Wed Nov 11 2026. No macro, syntax, notation, axiom, sorry.
-/
import Derived.Test.YtaanpoankljblaaChecked
import GoSem.Claim
import GoSem.ClaimJoined
import GoSem.ClaimMapViews
import Derived.JoinedTies
import Derived.KernelRfl
namespace Go.Proofs.Ytaanpoankljblaa
/- THE CELL 'sum', in the pinned program and in every row, IS THE sha256 OF THE DUMP (.gsa) THAT YtaanpoankljblaaProg.lean LOADS. Nothing in Lean hashes anything: it is a label: what it is worth is what the hold of that sum in a sandbox is worth. -/
noncomputable def Try.pinned : Pinned := { name := "ytaanpoankljblaa", sum := "16f63b47ebe8b0d3d026911e1e46bac77fc2ba282fbf3831878364df8bf308ef", checked := Try.checked }
namespace Rows
def none {H : Type} : Left H := { results := [], args := [] }

/-- 'laws.FnKiss': WHATEVER THE INPUT: true; the input reads as it did. -/
def fnKissSpec : ChangeSpec := { name := "fnKiss", fn := fun _ => fun
  | [d] => { results := [.lit (.bool true)], args := [d] }
  | _ => none }
def fnKissRow : OpenClaim := { program := "ytaanpoankljblaa", sum := "16f63b47ebe8b0d3d026911e1e46bac77fc2ba282fbf3831878364df8bf308ef", func := "beevikntp/laws.FnKiss", spec := "fnKiss", unfollowed := true, recurses := true, apart := false }
def FnKissSaid : Prop := fnKissRow.holds Try.pinned (OpenSpec.ofChange fnKissSpec)

/-- ITS FALSE NEIGHBOUR: 'it returns false'. Refute it at one input. -/
def fnKissWrong : ChangeSpec := { name := "fnKiss", fn := fun _ => fun
  | [d] => { results := [.lit (.bool false)], args := [d] }
  | _ => none }
def FnKissWrongFalsely : Prop := fnKissRow.holds Try.pinned (OpenSpec.ofChange fnKissWrong)

/-- 'laws.FnDurations': WHATEVER THE INPUT: true; the input reads as it did. -/
def fnDurationsSpec : ChangeSpec := { name := "fnDurations", fn := fun _ => fun
  | [d1, d2, d3] => { results := [.lit (.bool true)], args := [d1, d2, d3] }
  | _ => none }
def fnDurationsRow : OpenClaim := { program := "ytaanpoankljblaa", sum := "16f63b47ebe8b0d3d026911e1e46bac77fc2ba282fbf3831878364df8bf308ef", func := "beevikntp/laws.FnDurations", spec := "fnDurations", apart := false }
def FnDurationsSaid : Prop := fnDurationsRow.holds Try.pinned (OpenSpec.ofChange fnDurationsSpec)

/-- ITS FALSE NEIGHBOUR: 'it returns false'. Refute it at one input. -/
def fnDurationsWrong : ChangeSpec := { name := "fnDurations", fn := fun _ => fun
  | [d1, d2, d3] => { results := [.lit (.bool false)], args := [d1, d2, d3] }
  | _ => none }
def FnDurationsWrongFalsely : Prop := fnDurationsRow.holds Try.pinned (OpenSpec.ofChange fnDurationsWrong)

/-- 'laws.FnFormat': WHATEVER THE INPUT: true; the input reads as it did. -/
def fnFormatSpec : ChangeSpec := { name := "fnFormat", fn := fun _ => fun
  | [d] => { results := [.lit (.bool true)], args := [d] }
  | _ => none }
def fnFormatRow : OpenClaim := { program := "ytaanpoankljblaa", sum := "16f63b47ebe8b0d3d026911e1e46bac77fc2ba282fbf3831878364df8bf308ef", func := "beevikntp/laws.FnFormat", spec := "fnFormat", unfollowed := true, recurses := true, apart := false }
def FnFormatSaid : Prop := fnFormatRow.holds Try.pinned (OpenSpec.ofChange fnFormatSpec)

/-- ITS FALSE NEIGHBOUR: 'it returns false'. Refute it at one input. -/
def fnFormatWrong : ChangeSpec := { name := "fnFormat", fn := fun _ => fun
  | [d] => { results := [.lit (.bool false)], args := [d] }
  | _ => none }
def FnFormatWrongFalsely : Prop := fnFormatRow.holds Try.pinned (OpenSpec.ofChange fnFormatWrong)

/-- 'laws.FnParse': WHATEVER THE INPUT: true; the input reads as it did. -/
def fnParseSpec : ChangeSpec := { name := "fnParse", fn := fun _ => fun
  | [d1, d2, d3] => { results := [.lit (.bool true)], args := [d1, d2, d3] }
  | _ => none }
def fnParseRow : OpenClaim := { program := "ytaanpoankljblaa", sum := "16f63b47ebe8b0d3d026911e1e46bac77fc2ba282fbf3831878364df8bf308ef", func := "beevikntp/laws.FnParse", spec := "fnParse", unfollowed := true, recurses := true, apart := false }
def FnParseSaid : Prop := fnParseRow.holds Try.pinned (OpenSpec.ofChange fnParseSpec)

/-- ITS FALSE NEIGHBOUR: 'it returns false'. Refute it at one input. -/
def fnParseWrong : ChangeSpec := { name := "fnParse", fn := fun _ => fun
  | [d1, d2, d3] => { results := [.lit (.bool false)], args := [d1, d2, d3] }
  | _ => none }
def FnParseWrongFalsely : Prop := fnParseRow.holds Try.pinned (OpenSpec.ofChange fnParseWrong)

/-- 'laws.FnOffset': WHATEVER THE INPUT: true; the input reads as it did. -/
def fnOffsetSpec : ChangeSpec := { name := "fnOffset", fn := fun _ => fun
  | [d1, d2, d3, d4] => { results := [.lit (.bool true)], args := [d1, d2, d3, d4] }
  | _ => none }
def fnOffsetRow : OpenClaim := { program := "ytaanpoankljblaa", sum := "16f63b47ebe8b0d3d026911e1e46bac77fc2ba282fbf3831878364df8bf308ef", func := "beevikntp/laws.FnOffset", spec := "fnOffset", apart := false }
def FnOffsetSaid : Prop := fnOffsetRow.holds Try.pinned (OpenSpec.ofChange fnOffsetSpec)

/-- ITS FALSE NEIGHBOUR: 'it returns false'. Refute it at one input. -/
def fnOffsetWrong : ChangeSpec := { name := "fnOffset", fn := fun _ => fun
  | [d1, d2, d3, d4] => { results := [.lit (.bool false)], args := [d1, d2, d3, d4] }
  | _ => none }
def FnOffsetWrongFalsely : Prop := fnOffsetRow.holds Try.pinned (OpenSpec.ofChange fnOffsetWrong)

/-- 'laws.FnEra': WHATEVER THE INPUT: true; the input reads as it did. -/
def fnEraSpec : ChangeSpec := { name := "fnEra", fn := fun _ => fun
  | [d1, d2] => { results := [.lit (.bool true)], args := [d1, d2] }
  | _ => none }
def fnEraRow : OpenClaim := { program := "ytaanpoankljblaa", sum := "16f63b47ebe8b0d3d026911e1e46bac77fc2ba282fbf3831878364df8bf308ef", func := "beevikntp/laws.FnEra", spec := "fnEra", apart := false }
def FnEraSaid : Prop := fnEraRow.holds Try.pinned (OpenSpec.ofChange fnEraSpec)

/-- ITS FALSE NEIGHBOUR: 'it returns false'. Refute it at one input. -/
def fnEraWrong : ChangeSpec := { name := "fnEra", fn := fun _ => fun
  | [d1, d2] => { results := [.lit (.bool false)], args := [d1, d2] }
  | _ => none }
def FnEraWrongFalsely : Prop := fnEraRow.holds Try.pinned (OpenSpec.ofChange fnEraWrong)

/-- 'laws.FnPivot': WHATEVER THE INPUT: true; the input reads as it did. -/
def fnPivotSpec : ChangeSpec := { name := "fnPivot", fn := fun _ => fun
  | [d] => { results := [.lit (.bool true)], args := [d] }
  | _ => none }
def fnPivotRow : OpenClaim := { program := "ytaanpoankljblaa", sum := "16f63b47ebe8b0d3d026911e1e46bac77fc2ba282fbf3831878364df8bf308ef", func := "beevikntp/laws.FnPivot", spec := "fnPivot", apart := false }
def FnPivotSaid : Prop := fnPivotRow.holds Try.pinned (OpenSpec.ofChange fnPivotSpec)

/-- ITS FALSE NEIGHBOUR: 'it returns false'. Refute it at one input. -/
def fnPivotWrong : ChangeSpec := { name := "fnPivot", fn := fun _ => fun
  | [d] => { results := [.lit (.bool false)], args := [d] }
  | _ => none }
def FnPivotWrongFalsely : Prop := fnPivotRow.holds Try.pinned (OpenSpec.ofChange fnPivotWrong)

/-- 'laws.FnTimes': WHATEVER THE INPUT: true; the input reads as it did. -/
def fnTimesSpec : ChangeSpec := { name := "fnTimes", fn := fun _ => fun
  | [d] => { results := [.lit (.bool true)], args := [d] }
  | _ => none }
def fnTimesRow : OpenClaim := { program := "ytaanpoankljblaa", sum := "16f63b47ebe8b0d3d026911e1e46bac77fc2ba282fbf3831878364df8bf308ef", func := "beevikntp/laws.FnTimes", spec := "fnTimes", apart := false }
def FnTimesSaid : Prop := fnTimesRow.holds Try.pinned (OpenSpec.ofChange fnTimesSpec)

/-- ITS FALSE NEIGHBOUR: 'it returns false'. Refute it at one input. -/
def fnTimesWrong : ChangeSpec := { name := "fnTimes", fn := fun _ => fun
  | [d] => { results := [.lit (.bool false)], args := [d] }
  | _ => none }
def FnTimesWrongFalsely : Prop := fnTimesRow.holds Try.pinned (OpenSpec.ofChange fnTimesWrong)

/- THE SECOND FORM. 'bulk': how many values and letters a reading holds, each counted each time it is reached (what is shared counts as often as it is met; a slice's spare places count too). A statement '..UptoSaid' is the law's where the arguments, and the package variables that the reading takes, are together of bulk at most 1048576: NARROWER than '..Said'. Prove '..Said' where nothing that the law and all that it calls make is longer than what came in: it says more and counts as full. Else prove '..UptoSaid'. A law counts once. -/
mutual
def uptoBulk {H : Type} : DataW H → Nat
  | .lit (.string bytes) => bytes.length + 1
  | .lit _ => 1
  | .nil => 1
  | .ptr d => uptoBulk d + 1
  | .slice elems spare => uptoBulkAll elems + uptoBulkAll spare + 1
  | .agg parts => uptoBulkAll parts + 1
  | .iface _ d => uptoBulk d + 1
  | .map entries => uptoBulkEntries entries + 1
  | .held _ => 1
def uptoBulkAll {H : Type} : List (DataW H) → Nat
  | [] => 0
  | d :: r => uptoBulk d + uptoBulkAll r
def uptoBulkEntries {H : Type} : List (Lit × DataW H) → Nat
  | [] => 0
  | x :: r => uptoBulkEntry x + uptoBulkEntries r
def uptoBulkEntry {H : Type} : Lit × DataW H → Nat
  | (.string bytes, d) => bytes.length + uptoBulk d + 1
  | (_, d) => uptoBulk d + 1
 end
def uptoSmall : (H : Type) → List (DataW H) → Bool := fun _ ds => decide (uptoBulkAll ds ≤ 1048576)
def OpenSpec.upto (s : _root_.Go.ChangeSpec) : _root_.Go.OpenSpec := { _root_.Go.OpenSpec.ofChange s with cond := some uptoSmall }

/-- 'laws.FnKiss', WHERE WHAT IT READS IS OF BULK AT MOST 1048576: true; the input reads as it did. -/
def fnKissUptoRow : OpenClaim := { program := "ytaanpoankljblaa", sum := "16f63b47ebe8b0d3d026911e1e46bac77fc2ba282fbf3831878364df8bf308ef", func := "beevikntp/laws.FnKiss", spec := "fnKiss", unfollowed := true, recurses := true, apart := false, narrowed := true }
def FnKissUptoSaid : Prop := fnKissUptoRow.holds Try.pinned (OpenSpec.upto fnKissSpec)

/-- 'laws.FnDurations', WHERE WHAT IT READS IS OF BULK AT MOST 1048576: true; the input reads as it did. -/
def fnDurationsUptoRow : OpenClaim := { program := "ytaanpoankljblaa", sum := "16f63b47ebe8b0d3d026911e1e46bac77fc2ba282fbf3831878364df8bf308ef", func := "beevikntp/laws.FnDurations", spec := "fnDurations", apart := false, narrowed := true }
def FnDurationsUptoSaid : Prop := fnDurationsUptoRow.holds Try.pinned (OpenSpec.upto fnDurationsSpec)

/-- 'laws.FnFormat', WHERE WHAT IT READS IS OF BULK AT MOST 1048576: true; the input reads as it did. -/
def fnFormatUptoRow : OpenClaim := { program := "ytaanpoankljblaa", sum := "16f63b47ebe8b0d3d026911e1e46bac77fc2ba282fbf3831878364df8bf308ef", func := "beevikntp/laws.FnFormat", spec := "fnFormat", unfollowed := true, recurses := true, apart := false, narrowed := true }
def FnFormatUptoSaid : Prop := fnFormatUptoRow.holds Try.pinned (OpenSpec.upto fnFormatSpec)

/-- 'laws.FnParse', WHERE WHAT IT READS IS OF BULK AT MOST 1048576: true; the input reads as it did. -/
def fnParseUptoRow : OpenClaim := { program := "ytaanpoankljblaa", sum := "16f63b47ebe8b0d3d026911e1e46bac77fc2ba282fbf3831878364df8bf308ef", func := "beevikntp/laws.FnParse", spec := "fnParse", unfollowed := true, recurses := true, apart := false, narrowed := true }
def FnParseUptoSaid : Prop := fnParseUptoRow.holds Try.pinned (OpenSpec.upto fnParseSpec)

/-- 'laws.FnOffset', WHERE WHAT IT READS IS OF BULK AT MOST 1048576: true; the input reads as it did. -/
def fnOffsetUptoRow : OpenClaim := { program := "ytaanpoankljblaa", sum := "16f63b47ebe8b0d3d026911e1e46bac77fc2ba282fbf3831878364df8bf308ef", func := "beevikntp/laws.FnOffset", spec := "fnOffset", apart := false, narrowed := true }
def FnOffsetUptoSaid : Prop := fnOffsetUptoRow.holds Try.pinned (OpenSpec.upto fnOffsetSpec)

/-- 'laws.FnEra', WHERE WHAT IT READS IS OF BULK AT MOST 1048576: true; the input reads as it did. -/
def fnEraUptoRow : OpenClaim := { program := "ytaanpoankljblaa", sum := "16f63b47ebe8b0d3d026911e1e46bac77fc2ba282fbf3831878364df8bf308ef", func := "beevikntp/laws.FnEra", spec := "fnEra", apart := false, narrowed := true }
def FnEraUptoSaid : Prop := fnEraUptoRow.holds Try.pinned (OpenSpec.upto fnEraSpec)

/-- 'laws.FnPivot', WHERE WHAT IT READS IS OF BULK AT MOST 1048576: true; the input reads as it did. -/
def fnPivotUptoRow : OpenClaim := { program := "ytaanpoankljblaa", sum := "16f63b47ebe8b0d3d026911e1e46bac77fc2ba282fbf3831878364df8bf308ef", func := "beevikntp/laws.FnPivot", spec := "fnPivot", apart := false, narrowed := true }
def FnPivotUptoSaid : Prop := fnPivotUptoRow.holds Try.pinned (OpenSpec.upto fnPivotSpec)

/-- 'laws.FnTimes', WHERE WHAT IT READS IS OF BULK AT MOST 1048576: true; the input reads as it did. -/
def fnTimesUptoRow : OpenClaim := { program := "ytaanpoankljblaa", sum := "16f63b47ebe8b0d3d026911e1e46bac77fc2ba282fbf3831878364df8bf308ef", func := "beevikntp/laws.FnTimes", spec := "fnTimes", apart := false, narrowed := true }
def FnTimesUptoSaid : Prop := fnTimesUptoRow.holds Try.pinned (OpenSpec.upto fnTimesSpec)

end Rows
end Go.Proofs.Ytaanpoankljblaa
