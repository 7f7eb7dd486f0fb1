/-
  No cell of these rows narrows 'for every input' (looked for: loops, veiled, ifaces, maps, wideKeys, modest, calm, conditions, laid).
  DERIVED. THE GIVEN ROWS OF THIS SEAT. 5 by the template 'for every input the law returns true; each argument reads behind the call as it read before'; 0 by the template 'total and deterministic' (their statements: Qxb6600970aModsTotals.lean).
  GIVEN WITH THE SEED: the statements are not yours to turn. If you find one false, say at which input.
  Laid BY PROGRAM, IN A SANDBOX (cutbox-rows.mjs): the forced cells as the released guide's own fill.sh prints them over the translation 2cd3b59aafd65070… (all of the seat's roots in one cut). By AI agents, Wed Nov 11 2026. No macro, syntax, notation, axiom, sorry.
-/
import Derived.Test.Qxb6600970aModsChecked
import GoSem.Claim
import GoSem.ClaimJoined
import GoSem.ClaimMapViews
import Derived.JoinedTies
import Derived.KernelRfl
namespace Go.Proofs.Qxb6600970aMods
/- THE CELL 'sum', in the pinned program and in every row, IS THE sha256 OF THE DUMP (.gsa) THAT Qxb6600970aModsProg.lean LOADS. Nothing in Lean hashes anything: it is a label: what it is worth is what the hold of that sum in a sandbox is worth. -/
noncomputable def Trym.pinned : Pinned := { name := "qxb6600970amods", sum := "2cd3b59aafd650705db46dfc79827adc282dcd2ca62c1dea015198631c8da1f0", checked := Trym.checked }
namespace Rows
def none {H : Type} : Left H := { results := [], args := [] }

/-- 'zzlaws_internal_broker_b1.FnJumpCaseTable': WHATEVER THE INPUT: true; the input reads as it did. -/
def fnJumpCaseTableSpec : ChangeSpec := { name := "fnJumpCaseTable", fn := fun _ => fun
  | [d1, d2] => { results := [.lit (.bool true)], args := [d1, d2] }
  | _ => none }
def fnJumpCaseTableRow : OpenClaim := { program := "qxb6600970amods", sum := "2cd3b59aafd650705db46dfc79827adc282dcd2ca62c1dea015198631c8da1f0", func := "example.com/quotaloom/quotaloom/zzlaws_internal_broker_b1.FnJumpCaseTable", spec := "fnJumpCaseTable", make := .lifted ["publicsums"], apart := false }
def FnJumpCaseTableSaid : Prop := fnJumpCaseTableRow.holds Trym.pinned (OpenSpec.ofChange fnJumpCaseTableSpec)

/-- ITS FALSE NEIGHBOUR: 'it returns false'. Refute it at one input. -/
def fnJumpCaseTableWrong : ChangeSpec := { name := "fnJumpCaseTable", fn := fun _ => fun
  | [d1, d2] => { results := [.lit (.bool false)], args := [d1, d2] }
  | _ => none }
def FnJumpCaseTableWrongFalsely : Prop := fnJumpCaseTableRow.holds Trym.pinned (OpenSpec.ofChange fnJumpCaseTableWrong)

/-- 'zzlaws_internal_broker_b1.FnJumpShrinkKeeps': WHATEVER THE INPUT: true; the input reads as it did. -/
def fnJumpShrinkKeepsSpec : ChangeSpec := { name := "fnJumpShrinkKeeps", fn := fun _ => fun
  | [d1, d2, d3] => { results := [.lit (.bool true)], args := [d1, d2, d3] }
  | _ => none }
def fnJumpShrinkKeepsRow : OpenClaim := { program := "qxb6600970amods", sum := "2cd3b59aafd650705db46dfc79827adc282dcd2ca62c1dea015198631c8da1f0", func := "example.com/quotaloom/quotaloom/zzlaws_internal_broker_b1.FnJumpShrinkKeeps", spec := "fnJumpShrinkKeeps", make := .lifted ["publicsums"], apart := false }
def FnJumpShrinkKeepsSaid : Prop := fnJumpShrinkKeepsRow.holds Trym.pinned (OpenSpec.ofChange fnJumpShrinkKeepsSpec)

/-- ITS FALSE NEIGHBOUR: 'it returns false'. Refute it at one input. -/
def fnJumpShrinkKeepsWrong : ChangeSpec := { name := "fnJumpShrinkKeeps", fn := fun _ => fun
  | [d1, d2, d3] => { results := [.lit (.bool false)], args := [d1, d2, d3] }
  | _ => none }
def FnJumpShrinkKeepsWrongFalsely : Prop := fnJumpShrinkKeepsRow.holds Trym.pinned (OpenSpec.ofChange fnJumpShrinkKeepsWrong)

/-- 'zzlaws_internal_broker_b1.FnJumpStep': WHATEVER THE INPUT: true; the input reads as it did. -/
def fnJumpStepSpec : ChangeSpec := { name := "fnJumpStep", fn := fun _ => fun
  | [d1, d2] => { results := [.lit (.bool true)], args := [d1, d2] }
  | _ => none }
def fnJumpStepRow : OpenClaim := { program := "qxb6600970amods", sum := "2cd3b59aafd650705db46dfc79827adc282dcd2ca62c1dea015198631c8da1f0", func := "example.com/quotaloom/quotaloom/zzlaws_internal_broker_b1.FnJumpStep", spec := "fnJumpStep", make := .lifted ["publicsums"], apart := false }
def FnJumpStepSaid : Prop := fnJumpStepRow.holds Trym.pinned (OpenSpec.ofChange fnJumpStepSpec)

/-- ITS FALSE NEIGHBOUR: 'it returns false'. Refute it at one input. -/
def fnJumpStepWrong : ChangeSpec := { name := "fnJumpStep", fn := fun _ => fun
  | [d1, d2] => { results := [.lit (.bool false)], args := [d1, d2] }
  | _ => none }
def FnJumpStepWrongFalsely : Prop := fnJumpStepRow.holds Trym.pinned (OpenSpec.ofChange fnJumpStepWrong)

/-- 'zzlaws_internal_broker_b1.FnPartitionRangeExact': WHATEVER THE INPUT: true; the input reads as it did. -/
def fnPartitionRangeExactSpec : ChangeSpec := { name := "fnPartitionRangeExact", fn := fun _ => fun
  | [d1, d2, d3] => { results := [.lit (.bool true)], args := [d1, d2, d3] }
  | _ => none }
def fnPartitionRangeExactRow : OpenClaim := { program := "qxb6600970amods", sum := "2cd3b59aafd650705db46dfc79827adc282dcd2ca62c1dea015198631c8da1f0", func := "example.com/quotaloom/quotaloom/zzlaws_internal_broker_b1.FnPartitionRangeExact", spec := "fnPartitionRangeExact", make := .lifted ["publicsums"], apart := false }
def FnPartitionRangeExactSaid : Prop := fnPartitionRangeExactRow.holds Trym.pinned (OpenSpec.ofChange fnPartitionRangeExactSpec)

/-- ITS FALSE NEIGHBOUR: 'it returns false'. Refute it at one input. -/
def fnPartitionRangeExactWrong : ChangeSpec := { name := "fnPartitionRangeExact", fn := fun _ => fun
  | [d1, d2, d3] => { results := [.lit (.bool false)], args := [d1, d2, d3] }
  | _ => none }
def FnPartitionRangeExactWrongFalsely : Prop := fnPartitionRangeExactRow.holds Trym.pinned (OpenSpec.ofChange fnPartitionRangeExactWrong)

/-- 'zzlaws_internal_broker_b1.FnPartitionRangeConcat': WHATEVER THE INPUT: true; the input reads as it did. -/
def fnPartitionRangeConcatSpec : ChangeSpec := { name := "fnPartitionRangeConcat", fn := fun _ => fun
  | [d1, d2, d3, d4] => { results := [.lit (.bool true)], args := [d1, d2, d3, d4] }
  | _ => none }
def fnPartitionRangeConcatRow : OpenClaim := { program := "qxb6600970amods", sum := "2cd3b59aafd650705db46dfc79827adc282dcd2ca62c1dea015198631c8da1f0", func := "example.com/quotaloom/quotaloom/zzlaws_internal_broker_b1.FnPartitionRangeConcat", spec := "fnPartitionRangeConcat", make := .lifted ["publicsums"], apart := false }
def FnPartitionRangeConcatSaid : Prop := fnPartitionRangeConcatRow.holds Trym.pinned (OpenSpec.ofChange fnPartitionRangeConcatSpec)

/-- ITS FALSE NEIGHBOUR: 'it returns false'. Refute it at one input. -/
def fnPartitionRangeConcatWrong : ChangeSpec := { name := "fnPartitionRangeConcat", fn := fun _ => fun
  | [d1, d2, d3, d4] => { results := [.lit (.bool false)], args := [d1, d2, d3, d4] }
  | _ => none }
def FnPartitionRangeConcatWrongFalsely : Prop := fnPartitionRangeConcatRow.holds Trym.pinned (OpenSpec.ofChange fnPartitionRangeConcatWrong)

end Rows
end Go.Proofs.Qxb6600970aMods
