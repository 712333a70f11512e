/-
  No cell of these rows narrows 'for every input' (looked for: loops, veiled, ifaces, maps, wideKeys, modest, calm, conditions, laid).
  DERIVED. THE GIVEN ROWS OF THIS SEAT. 11 by the template 'for every input the law returns true; each argument reads behind the call as it read before'; 0 by the template 'total and deterministic' (their statements: YtfbnnbbjfjhkjaaTotals.lean).
  GIVEN WITH THE SEED: the statements are not yours to turn. If you find one false, say at which input.
  Laid BY PROGRAM, IN A SANDBOX (cutbox-rows.mjs): the forced cells as the released guide's own fill.sh prints them over the translation 6b268e6d7feda89f… (all of the seat's roots in one cut). By AI agents, Wed Nov 11 2026. No macro, syntax, notation, axiom, sorry.
-/
import Derived.Test.YtfbnnbbjfjhkjaaChecked
import GoSem.Claim
import GoSem.ClaimJoined
import GoSem.ClaimMapViews
import Derived.JoinedTies
import Derived.KernelRfl
namespace Go.Proofs.Ytfbnnbbjfjhkjaa
/- THE CELL 'sum', in the pinned program and in every row, IS THE sha256 OF THE DUMP (.gsa) THAT YtfbnnbbjfjhkjaaProg.lean LOADS. Nothing in Lean hashes anything: it is a label: what it is worth is what the hold of that sum in a sandbox is worth. -/
noncomputable def Try.pinned : Pinned := { name := "ytfbnnbbjfjhkjaa", sum := "6b268e6d7feda89f31f97cfd1f09a167cce18ea3ef7c4d675c3e1bd9465f6d82", checked := Try.checked }
namespace Rows
def none {H : Type} : Left H := { results := [], args := [] }

/-- 'laws.FnExactVarint': WHATEVER THE INPUT: true; the input reads as it did. -/
def fnExactVarintSpec : ChangeSpec := { name := "fnExactVarint", fn := fun _ => fun
  | [d1, d2] => { results := [.lit (.bool true)], args := [d1, d2] }
  | _ => none }
def fnExactVarintRow : OpenClaim := { program := "ytfbnnbbjfjhkjaa", sum := "6b268e6d7feda89f31f97cfd1f09a167cce18ea3ef7c4d675c3e1bd9465f6d82", func := "loop.example/pub-placetables/laws.FnExactVarint", spec := "fnExactVarint", apart := false }
def FnExactVarintSaid : Prop := fnExactVarintRow.holds Try.pinned (OpenSpec.ofChange fnExactVarintSpec)

/-- ITS FALSE NEIGHBOUR: 'it returns false'. Refute it at one input. -/
def fnExactVarintWrong : ChangeSpec := { name := "fnExactVarint", fn := fun _ => fun
  | [d1, d2] => { results := [.lit (.bool false)], args := [d1, d2] }
  | _ => none }
def FnExactVarintWrongFalsely : Prop := fnExactVarintRow.holds Try.pinned (OpenSpec.ofChange fnExactVarintWrong)

/-- 'laws.FnPadded': WHATEVER THE INPUT: true; the input reads as it did. -/
def fnPaddedSpec : ChangeSpec := { name := "fnPadded", fn := fun _ => fun
  | [d1, d2, d3] => { results := [.lit (.bool true)], args := [d1, d2, d3] }
  | _ => none }
def fnPaddedRow : OpenClaim := { program := "ytfbnnbbjfjhkjaa", sum := "6b268e6d7feda89f31f97cfd1f09a167cce18ea3ef7c4d675c3e1bd9465f6d82", func := "loop.example/pub-placetables/laws.FnPadded", spec := "fnPadded", apart := false }
def FnPaddedSaid : Prop := fnPaddedRow.holds Try.pinned (OpenSpec.ofChange fnPaddedSpec)

/-- ITS FALSE NEIGHBOUR: 'it returns false'. Refute it at one input. -/
def fnPaddedWrong : ChangeSpec := { name := "fnPadded", fn := fun _ => fun
  | [d1, d2, d3] => { results := [.lit (.bool false)], args := [d1, d2, d3] }
  | _ => none }
def FnPaddedWrongFalsely : Prop := fnPaddedRow.holds Try.pinned (OpenSpec.ofChange fnPaddedWrong)

/-- 'laws.FnExactEnd': WHATEVER THE INPUT: true; the input reads as it did. -/
def fnExactEndSpec : ChangeSpec := { name := "fnExactEnd", fn := fun _ => fun
  | [d1, d2, d3, d4, d5, d6] => { results := [.lit (.bool true)], args := [d1, d2, d3, d4, d5, d6] }
  | _ => none }
def fnExactEndRow : OpenClaim := { program := "ytfbnnbbjfjhkjaa", sum := "6b268e6d7feda89f31f97cfd1f09a167cce18ea3ef7c4d675c3e1bd9465f6d82", func := "loop.example/pub-placetables/laws.FnExactEnd", spec := "fnExactEnd", apart := false }
def FnExactEndSaid : Prop := fnExactEndRow.holds Try.pinned (OpenSpec.ofChange fnExactEndSpec)

/-- ITS FALSE NEIGHBOUR: 'it returns false'. Refute it at one input. -/
def fnExactEndWrong : ChangeSpec := { name := "fnExactEnd", fn := fun _ => fun
  | [d1, d2, d3, d4, d5, d6] => { results := [.lit (.bool false)], args := [d1, d2, d3, d4, d5, d6] }
  | _ => none }
def FnExactEndWrongFalsely : Prop := fnExactEndRow.holds Try.pinned (OpenSpec.ofChange fnExactEndWrong)

/-- 'laws.FnExactStep': WHATEVER THE INPUT: true; the input reads as it did. -/
def fnExactStepSpec : ChangeSpec := { name := "fnExactStep", fn := fun _ => fun
  | [d1, d2, d3, d4, d5, d6] => { results := [.lit (.bool true)], args := [d1, d2, d3, d4, d5, d6] }
  | _ => none }
def fnExactStepRow : OpenClaim := { program := "ytfbnnbbjfjhkjaa", sum := "6b268e6d7feda89f31f97cfd1f09a167cce18ea3ef7c4d675c3e1bd9465f6d82", func := "loop.example/pub-placetables/laws.FnExactStep", spec := "fnExactStep", apart := false }
def FnExactStepSaid : Prop := fnExactStepRow.holds Try.pinned (OpenSpec.ofChange fnExactStepSpec)

/-- ITS FALSE NEIGHBOUR: 'it returns false'. Refute it at one input. -/
def fnExactStepWrong : ChangeSpec := { name := "fnExactStep", fn := fun _ => fun
  | [d1, d2, d3, d4, d5, d6] => { results := [.lit (.bool false)], args := [d1, d2, d3, d4, d5, d6] }
  | _ => none }
def FnExactStepWrongFalsely : Prop := fnExactStepRow.holds Try.pinned (OpenSpec.ofChange fnExactStepWrong)

/-- 'laws.FnWalk': WHATEVER THE INPUT: true; the input reads as it did. -/
def fnWalkSpec : ChangeSpec := { name := "fnWalk", fn := fun _ => fun
  | [d1, d2, d3, d4, d5, d6] => { results := [.lit (.bool true)], args := [d1, d2, d3, d4, d5, d6] }
  | _ => none }
def fnWalkRow : OpenClaim := { program := "ytfbnnbbjfjhkjaa", sum := "6b268e6d7feda89f31f97cfd1f09a167cce18ea3ef7c4d675c3e1bd9465f6d82", func := "loop.example/pub-placetables/laws.FnWalk", spec := "fnWalk", apart := false }
def FnWalkSaid : Prop := fnWalkRow.holds Try.pinned (OpenSpec.ofChange fnWalkSpec)

/-- ITS FALSE NEIGHBOUR: 'it returns false'. Refute it at one input. -/
def fnWalkWrong : ChangeSpec := { name := "fnWalk", fn := fun _ => fun
  | [d1, d2, d3, d4, d5, d6] => { results := [.lit (.bool false)], args := [d1, d2, d3, d4, d5, d6] }
  | _ => none }
def FnWalkWrongFalsely : Prop := fnWalkRow.holds Try.pinned (OpenSpec.ofChange fnWalkWrong)

/-- 'laws.FnEmpty': WHATEVER THE INPUT: true; the input reads as it did. -/
def fnEmptySpec : ChangeSpec := { name := "fnEmpty", fn := fun _ => fun
  | [d1, d2, d3, d4, d5, d6] => { results := [.lit (.bool true)], args := [d1, d2, d3, d4, d5, d6] }
  | _ => none }
def fnEmptyRow : OpenClaim := { program := "ytfbnnbbjfjhkjaa", sum := "6b268e6d7feda89f31f97cfd1f09a167cce18ea3ef7c4d675c3e1bd9465f6d82", func := "loop.example/pub-placetables/laws.FnEmpty", spec := "fnEmpty", apart := false }
def FnEmptySaid : Prop := fnEmptyRow.holds Try.pinned (OpenSpec.ofChange fnEmptySpec)

/-- ITS FALSE NEIGHBOUR: 'it returns false'. Refute it at one input. -/
def fnEmptyWrong : ChangeSpec := { name := "fnEmpty", fn := fun _ => fun
  | [d1, d2, d3, d4, d5, d6] => { results := [.lit (.bool false)], args := [d1, d2, d3, d4, d5, d6] }
  | _ => none }
def FnEmptyWrongFalsely : Prop := fnEmptyRow.holds Try.pinned (OpenSpec.ofChange fnEmptyWrong)

/-- 'laws.FnExactValue': WHATEVER THE INPUT: true; the input reads as it did. -/
def fnExactValueSpec : ChangeSpec := { name := "fnExactValue", fn := fun _ => fun
  | [d1, d2, d3, d4, d5, d6] => { results := [.lit (.bool true)], args := [d1, d2, d3, d4, d5, d6] }
  | _ => none }
def fnExactValueRow : OpenClaim := { program := "ytfbnnbbjfjhkjaa", sum := "6b268e6d7feda89f31f97cfd1f09a167cce18ea3ef7c4d675c3e1bd9465f6d82", func := "loop.example/pub-placetables/laws.FnExactValue", spec := "fnExactValue", apart := false }
def FnExactValueSaid : Prop := fnExactValueRow.holds Try.pinned (OpenSpec.ofChange fnExactValueSpec)

/-- ITS FALSE NEIGHBOUR: 'it returns false'. Refute it at one input. -/
def fnExactValueWrong : ChangeSpec := { name := "fnExactValue", fn := fun _ => fun
  | [d1, d2, d3, d4, d5, d6] => { results := [.lit (.bool false)], args := [d1, d2, d3, d4, d5, d6] }
  | _ => none }
def FnExactValueWrongFalsely : Prop := fnExactValueRow.holds Try.pinned (OpenSpec.ofChange fnExactValueWrong)

/-- 'laws.FnMoved': WHATEVER THE INPUT: true; the input reads as it did. -/
def fnMovedSpec : ChangeSpec := { name := "fnMoved", fn := fun _ => fun
  | [d1, d2, d3, d4, d5, d6] => { results := [.lit (.bool true)], args := [d1, d2, d3, d4, d5, d6] }
  | _ => none }
def fnMovedRow : OpenClaim := { program := "ytfbnnbbjfjhkjaa", sum := "6b268e6d7feda89f31f97cfd1f09a167cce18ea3ef7c4d675c3e1bd9465f6d82", func := "loop.example/pub-placetables/laws.FnMoved", spec := "fnMoved", apart := false }
def FnMovedSaid : Prop := fnMovedRow.holds Try.pinned (OpenSpec.ofChange fnMovedSpec)

/-- ITS FALSE NEIGHBOUR: 'it returns false'. Refute it at one input. -/
def fnMovedWrong : ChangeSpec := { name := "fnMoved", fn := fun _ => fun
  | [d1, d2, d3, d4, d5, d6] => { results := [.lit (.bool false)], args := [d1, d2, d3, d4, d5, d6] }
  | _ => none }
def FnMovedWrongFalsely : Prop := fnMovedRow.holds Try.pinned (OpenSpec.ofChange fnMovedWrong)

/-- 'laws.FnScaled': WHATEVER THE INPUT: true; the input reads as it did. -/
def fnScaledSpec : ChangeSpec := { name := "fnScaled", fn := fun _ => fun
  | [d1, d2, d3, d4, d5, d6] => { results := [.lit (.bool true)], args := [d1, d2, d3, d4, d5, d6] }
  | _ => none }
def fnScaledRow : OpenClaim := { program := "ytfbnnbbjfjhkjaa", sum := "6b268e6d7feda89f31f97cfd1f09a167cce18ea3ef7c4d675c3e1bd9465f6d82", func := "loop.example/pub-placetables/laws.FnScaled", spec := "fnScaled", apart := false }
def FnScaledSaid : Prop := fnScaledRow.holds Try.pinned (OpenSpec.ofChange fnScaledSpec)

/-- ITS FALSE NEIGHBOUR: 'it returns false'. Refute it at one input. -/
def fnScaledWrong : ChangeSpec := { name := "fnScaled", fn := fun _ => fun
  | [d1, d2, d3, d4, d5, d6] => { results := [.lit (.bool false)], args := [d1, d2, d3, d4, d5, d6] }
  | _ => none }
def FnScaledWrongFalsely : Prop := fnScaledRow.holds Try.pinned (OpenSpec.ofChange fnScaledWrong)

/-- 'laws.FnBeyond': WHATEVER THE INPUT: true; the input reads as it did. -/
def fnBeyondSpec : ChangeSpec := { name := "fnBeyond", fn := fun _ => fun
  | [d1, d2] => { results := [.lit (.bool true)], args := [d1, d2] }
  | _ => none }
def fnBeyondRow : OpenClaim := { program := "ytfbnnbbjfjhkjaa", sum := "6b268e6d7feda89f31f97cfd1f09a167cce18ea3ef7c4d675c3e1bd9465f6d82", func := "loop.example/pub-placetables/laws.FnBeyond", spec := "fnBeyond", unfollowed := true, recurses := true, apart := false }
def FnBeyondSaid : Prop := fnBeyondRow.holds Try.pinned (OpenSpec.ofChange fnBeyondSpec)

/-- ITS FALSE NEIGHBOUR: 'it returns false'. Refute it at one input. -/
def fnBeyondWrong : ChangeSpec := { name := "fnBeyond", fn := fun _ => fun
  | [d1, d2] => { results := [.lit (.bool false)], args := [d1, d2] }
  | _ => none }
def FnBeyondWrongFalsely : Prop := fnBeyondRow.holds Try.pinned (OpenSpec.ofChange fnBeyondWrong)

/-- 'laws.FnThreeRoads': WHATEVER THE INPUT: true; the input reads as it did. -/
def fnThreeRoadsSpec : ChangeSpec := { name := "fnThreeRoads", fn := fun _ => fun
  | [d1, d2] => { results := [.lit (.bool true)], args := [d1, d2] }
  | _ => none }
def fnThreeRoadsRow : OpenClaim := { program := "ytfbnnbbjfjhkjaa", sum := "6b268e6d7feda89f31f97cfd1f09a167cce18ea3ef7c4d675c3e1bd9465f6d82", func := "loop.example/pub-placetables/laws.FnThreeRoads", spec := "fnThreeRoads", unfollowed := true, recurses := true, apart := false }
def FnThreeRoadsSaid : Prop := fnThreeRoadsRow.holds Try.pinned (OpenSpec.ofChange fnThreeRoadsSpec)

/-- ITS FALSE NEIGHBOUR: 'it returns false'. Refute it at one input. -/
def fnThreeRoadsWrong : ChangeSpec := { name := "fnThreeRoads", fn := fun _ => fun
  | [d1, d2] => { results := [.lit (.bool false)], args := [d1, d2] }
  | _ => none }
def FnThreeRoadsWrongFalsely : Prop := fnThreeRoadsRow.holds Try.pinned (OpenSpec.ofChange fnThreeRoadsWrong)

/- THE SECOND FORM. 'bulk': how many values and letters a reading holds, each counted each time it is reached (what is shared counts as often as it is met; a slice's spare places count too). A statement '..UptoSaid' is the law's where the arguments, and the package variables that the reading takes, are together of bulk at most 1048576: NARROWER than '..Said'. Prove '..Said' where nothing that the law and all that it calls make is longer than what came in: it says more and counts as full. Else prove '..UptoSaid'. A law counts once. -/
mutual
def uptoBulk {H : Type} : DataW H → Nat
  | .lit (.string bytes) => bytes.length + 1
  | .lit _ => 1
  | .nil => 1
  | .ptr d => uptoBulk d + 1
  | .slice elems spare => uptoBulkAll elems + uptoBulkAll spare + 1
  | .agg parts => uptoBulkAll parts + 1
  | .iface _ d => uptoBulk d + 1
  | .map entries => uptoBulkEntries entries + 1
  | .held _ => 1
def uptoBulkAll {H : Type} : List (DataW H) → Nat
  | [] => 0
  | d :: r => uptoBulk d + uptoBulkAll r
def uptoBulkEntries {H : Type} : List (Lit × DataW H) → Nat
  | [] => 0
  | x :: r => uptoBulkEntry x + uptoBulkEntries r
def uptoBulkEntry {H : Type} : Lit × DataW H → Nat
  | (.string bytes, d) => bytes.length + uptoBulk d + 1
  | (_, d) => uptoBulk d + 1
 end
def uptoSmall : (H : Type) → List (DataW H) → Bool := fun _ ds => decide (uptoBulkAll ds ≤ 1048576)
def OpenSpec.upto (s : _root_.Go.ChangeSpec) : _root_.Go.OpenSpec := { _root_.Go.OpenSpec.ofChange s with cond := some uptoSmall }

/-- 'laws.FnExactVarint', WHERE WHAT IT READS IS OF BULK AT MOST 1048576: true; the input reads as it did. -/
def fnExactVarintUptoRow : OpenClaim := { program := "ytfbnnbbjfjhkjaa", sum := "6b268e6d7feda89f31f97cfd1f09a167cce18ea3ef7c4d675c3e1bd9465f6d82", func := "loop.example/pub-placetables/laws.FnExactVarint", spec := "fnExactVarint", apart := false, narrowed := true }
def FnExactVarintUptoSaid : Prop := fnExactVarintUptoRow.holds Try.pinned (OpenSpec.upto fnExactVarintSpec)

/-- 'laws.FnPadded', WHERE WHAT IT READS IS OF BULK AT MOST 1048576: true; the input reads as it did. -/
def fnPaddedUptoRow : OpenClaim := { program := "ytfbnnbbjfjhkjaa", sum := "6b268e6d7feda89f31f97cfd1f09a167cce18ea3ef7c4d675c3e1bd9465f6d82", func := "loop.example/pub-placetables/laws.FnPadded", spec := "fnPadded", apart := false, narrowed := true }
def FnPaddedUptoSaid : Prop := fnPaddedUptoRow.holds Try.pinned (OpenSpec.upto fnPaddedSpec)

/-- 'laws.FnExactEnd', WHERE WHAT IT READS IS OF BULK AT MOST 1048576: true; the input reads as it did. -/
def fnExactEndUptoRow : OpenClaim := { program := "ytfbnnbbjfjhkjaa", sum := "6b268e6d7feda89f31f97cfd1f09a167cce18ea3ef7c4d675c3e1bd9465f6d82", func := "loop.example/pub-placetables/laws.FnExactEnd", spec := "fnExactEnd", apart := false, narrowed := true }
def FnExactEndUptoSaid : Prop := fnExactEndUptoRow.holds Try.pinned (OpenSpec.upto fnExactEndSpec)

/-- 'laws.FnExactStep', WHERE WHAT IT READS IS OF BULK AT MOST 1048576: true; the input reads as it did. -/
def fnExactStepUptoRow : OpenClaim := { program := "ytfbnnbbjfjhkjaa", sum := "6b268e6d7feda89f31f97cfd1f09a167cce18ea3ef7c4d675c3e1bd9465f6d82", func := "loop.example/pub-placetables/laws.FnExactStep", spec := "fnExactStep", apart := false, narrowed := true }
def FnExactStepUptoSaid : Prop := fnExactStepUptoRow.holds Try.pinned (OpenSpec.upto fnExactStepSpec)

/-- 'laws.FnWalk', WHERE WHAT IT READS IS OF BULK AT MOST 1048576: true; the input reads as it did. -/
def fnWalkUptoRow : OpenClaim := { program := "ytfbnnbbjfjhkjaa", sum := "6b268e6d7feda89f31f97cfd1f09a167cce18ea3ef7c4d675c3e1bd9465f6d82", func := "loop.example/pub-placetables/laws.FnWalk", spec := "fnWalk", apart := false, narrowed := true }
def FnWalkUptoSaid : Prop := fnWalkUptoRow.holds Try.pinned (OpenSpec.upto fnWalkSpec)

/-- 'laws.FnEmpty', WHERE WHAT IT READS IS OF BULK AT MOST 1048576: true; the input reads as it did. -/
def fnEmptyUptoRow : OpenClaim := { program := "ytfbnnbbjfjhkjaa", sum := "6b268e6d7feda89f31f97cfd1f09a167cce18ea3ef7c4d675c3e1bd9465f6d82", func := "loop.example/pub-placetables/laws.FnEmpty", spec := "fnEmpty", apart := false, narrowed := true }
def FnEmptyUptoSaid : Prop := fnEmptyUptoRow.holds Try.pinned (OpenSpec.upto fnEmptySpec)

/-- 'laws.FnExactValue', WHERE WHAT IT READS IS OF BULK AT MOST 1048576: true; the input reads as it did. -/
def fnExactValueUptoRow : OpenClaim := { program := "ytfbnnbbjfjhkjaa", sum := "6b268e6d7feda89f31f97cfd1f09a167cce18ea3ef7c4d675c3e1bd9465f6d82", func := "loop.example/pub-placetables/laws.FnExactValue", spec := "fnExactValue", apart := false, narrowed := true }
def FnExactValueUptoSaid : Prop := fnExactValueUptoRow.holds Try.pinned (OpenSpec.upto fnExactValueSpec)

/-- 'laws.FnMoved', WHERE WHAT IT READS IS OF BULK AT MOST 1048576: true; the input reads as it did. -/
def fnMovedUptoRow : OpenClaim := { program := "ytfbnnbbjfjhkjaa", sum := "6b268e6d7feda89f31f97cfd1f09a167cce18ea3ef7c4d675c3e1bd9465f6d82", func := "loop.example/pub-placetables/laws.FnMoved", spec := "fnMoved", apart := false, narrowed := true }
def FnMovedUptoSaid : Prop := fnMovedUptoRow.holds Try.pinned (OpenSpec.upto fnMovedSpec)

/-- 'laws.FnScaled', WHERE WHAT IT READS IS OF BULK AT MOST 1048576: true; the input reads as it did. -/
def fnScaledUptoRow : OpenClaim := { program := "ytfbnnbbjfjhkjaa", sum := "6b268e6d7feda89f31f97cfd1f09a167cce18ea3ef7c4d675c3e1bd9465f6d82", func := "loop.example/pub-placetables/laws.FnScaled", spec := "fnScaled", apart := false, narrowed := true }
def FnScaledUptoSaid : Prop := fnScaledUptoRow.holds Try.pinned (OpenSpec.upto fnScaledSpec)

/-- 'laws.FnBeyond', WHERE WHAT IT READS IS OF BULK AT MOST 1048576: true; the input reads as it did. -/
def fnBeyondUptoRow : OpenClaim := { program := "ytfbnnbbjfjhkjaa", sum := "6b268e6d7feda89f31f97cfd1f09a167cce18ea3ef7c4d675c3e1bd9465f6d82", func := "loop.example/pub-placetables/laws.FnBeyond", spec := "fnBeyond", unfollowed := true, recurses := true, apart := false, narrowed := true }
def FnBeyondUptoSaid : Prop := fnBeyondUptoRow.holds Try.pinned (OpenSpec.upto fnBeyondSpec)

/-- 'laws.FnThreeRoads', WHERE WHAT IT READS IS OF BULK AT MOST 1048576: true; the input reads as it did. -/
def fnThreeRoadsUptoRow : OpenClaim := { program := "ytfbnnbbjfjhkjaa", sum := "6b268e6d7feda89f31f97cfd1f09a167cce18ea3ef7c4d675c3e1bd9465f6d82", func := "loop.example/pub-placetables/laws.FnThreeRoads", spec := "fnThreeRoads", unfollowed := true, recurses := true, apart := false, narrowed := true }
def FnThreeRoadsUptoSaid : Prop := fnThreeRoadsUptoRow.holds Try.pinned (OpenSpec.upto fnThreeRoadsSpec)

end Rows
end Go.Proofs.Ytfbnnbbjfjhkjaa
