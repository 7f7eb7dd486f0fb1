/-
  No cell of these rows narrows 'for every input' (looked for: loops, veiled, ifaces, maps, wideKeys, modest, calm, conditions, laid).
  DERIVED. THE GIVEN ROWS OF THIS SEAT. 2 by the template 'for every input the law returns true; each argument reads behind the call as it read before'; 0 by the template 'total and deterministic' (their statements: Qxb6601773aModsTotals.lean).
  GIVEN WITH THE SEED: the statements are not yours to turn. If you find one false, say at which input.
  Laid BY PROGRAM, IN A SANDBOX (cutbox-rows.mjs): the forced cells as the released guide's own fill.sh prints them over the translation 868ec3dc92ab4f41… (all of the seat's roots in one cut). By AI agents, Wed Nov 11 2026. No macro, syntax, notation, axiom, sorry.
-/
import Derived.Test.Qxb6601773aModsChecked
import GoSem.Claim
import GoSem.ClaimJoined
import GoSem.ClaimMapViews
import Derived.JoinedTies
import Derived.KernelRfl
namespace Go.Proofs.Qxb6601773aMods
/- THE CELL 'sum', in the pinned program and in every row, IS THE sha256 OF THE DUMP (.gsa) THAT Qxb6601773aModsProg.lean LOADS. Nothing in Lean hashes anything: it is a label: what it is worth is what the hold of that sum in a sandbox is worth. -/
noncomputable def Trym.pinned : Pinned := { name := "qxb6601773amods", sum := "868ec3dc92ab4f4141ecd45a2b79ae5402a0d892f3ca605a9d93cc87ad5ee8ce", checked := Trym.checked }
namespace Rows
def none {H : Type} : Left H := { results := [], args := [] }

/-- 'zzlaws_root_b1.FnNumberMatchesDFA': WHATEVER THE INPUT: true; the input reads as it did. -/
def fnNumberMatchesDFASpec : ChangeSpec := { name := "fnNumberMatchesDFA", fn := fun _ => fun
  | [d1, d2, d3, d4] => { results := [.lit (.bool true)], args := [d1, d2, d3, d4] }
  | _ => none }
def fnNumberMatchesDFARow : OpenClaim := { program := "qxb6601773amods", sum := "868ec3dc92ab4f4141ecd45a2b79ae5402a0d892f3ca605a9d93cc87ad5ee8ce", func := "example.com/redditch/redditch/zzlaws_root_b1.FnNumberMatchesDFA", spec := "fnNumberMatchesDFA", make := .lifted ["publicsums"], apart := false }
def FnNumberMatchesDFASaid : Prop := fnNumberMatchesDFARow.holds Trym.pinned (OpenSpec.ofChange fnNumberMatchesDFASpec)

/-- ITS FALSE NEIGHBOUR: 'it returns false'. Refute it at one input. -/
def fnNumberMatchesDFAWrong : ChangeSpec := { name := "fnNumberMatchesDFA", fn := fun _ => fun
  | [d1, d2, d3, d4] => { results := [.lit (.bool false)], args := [d1, d2, d3, d4] }
  | _ => none }
def FnNumberMatchesDFAWrongFalsely : Prop := fnNumberMatchesDFARow.holds Trym.pinned (OpenSpec.ofChange fnNumberMatchesDFAWrong)

/-- 'zzlaws_root_b1.FnNumberShiftInvariant': WHATEVER THE INPUT: true; the input reads as it did. -/
def fnNumberShiftInvariantSpec : ChangeSpec := { name := "fnNumberShiftInvariant", fn := fun _ => fun
  | [d1, d2, d3, d4, d5] => { results := [.lit (.bool true)], args := [d1, d2, d3, d4, d5] }
  | _ => none }
def fnNumberShiftInvariantRow : OpenClaim := { program := "qxb6601773amods", sum := "868ec3dc92ab4f4141ecd45a2b79ae5402a0d892f3ca605a9d93cc87ad5ee8ce", func := "example.com/redditch/redditch/zzlaws_root_b1.FnNumberShiftInvariant", spec := "fnNumberShiftInvariant", make := .lifted ["publicsums"], apart := false }
def FnNumberShiftInvariantSaid : Prop := fnNumberShiftInvariantRow.holds Trym.pinned (OpenSpec.ofChange fnNumberShiftInvariantSpec)

/-- ITS FALSE NEIGHBOUR: 'it returns false'. Refute it at one input. -/
def fnNumberShiftInvariantWrong : ChangeSpec := { name := "fnNumberShiftInvariant", fn := fun _ => fun
  | [d1, d2, d3, d4, d5] => { results := [.lit (.bool false)], args := [d1, d2, d3, d4, d5] }
  | _ => none }
def FnNumberShiftInvariantWrongFalsely : Prop := fnNumberShiftInvariantRow.holds Trym.pinned (OpenSpec.ofChange fnNumberShiftInvariantWrong)

end Rows
end Go.Proofs.Qxb6601773aMods
