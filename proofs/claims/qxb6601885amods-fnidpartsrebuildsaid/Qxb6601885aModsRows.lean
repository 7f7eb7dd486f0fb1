/-
  No cell of these rows narrows 'for every input' (looked for: loops, veiled, ifaces, maps, wideKeys, modest, calm, conditions, laid).
  DERIVED. THE GIVEN ROWS OF THIS SEAT. 2 by the template 'for every input the law returns true; each argument reads behind the call as it read before'; 0 by the template 'total and deterministic' (their statements: Qxb6601885aModsTotals.lean).
  GIVEN WITH THE SEED: the statements are not yours to turn. If you find one false, say at which input.
  Laid BY PROGRAM, IN A SANDBOX (cutbox-rows.mjs): the forced cells as the released guide's own fill.sh prints them over the translation ff850e8d31d61b12… (all of the seat's roots in one cut). By AI agents, Wed Nov 11 2026. No macro, syntax, notation, axiom, sorry.
-/
import Derived.Test.Qxb6601885aModsChecked
import GoSem.Claim
import GoSem.ClaimJoined
import GoSem.ClaimMapViews
import Derived.JoinedTies
import Derived.KernelRfl
namespace Go.Proofs.Qxb6601885aMods
/- THE CELL 'sum', in the pinned program and in every row, IS THE sha256 OF THE DUMP (.gsa) THAT Qxb6601885aModsProg.lean LOADS. Nothing in Lean hashes anything: it is a label: what it is worth is what the hold of that sum in a sandbox is worth. -/
noncomputable def Trym.pinned : Pinned := { name := "qxb6601885amods", sum := "ff850e8d31d61b1271cdbe86197ad1ac807dccfc773daab1700408e484b377de", checked := Trym.checked }
namespace Rows
def none {H : Type} : Left H := { results := [], args := [] }

/-- 'zzlaws_root_b1.FnIDPartsRebuild': WHATEVER THE INPUT: true; the input reads as it did. -/
def fnIDPartsRebuildSpec : ChangeSpec := { name := "fnIDPartsRebuild", fn := fun _ => fun
  | [d] => { results := [.lit (.bool true)], args := [d] }
  | _ => none }
def fnIDPartsRebuildRow : OpenClaim := { program := "qxb6601885amods", sum := "ff850e8d31d61b1271cdbe86197ad1ac807dccfc773daab1700408e484b377de", func := "example.com/keyholder/keyholder/zzlaws_root_b1.FnIDPartsRebuild", spec := "fnIDPartsRebuild", make := .lifted ["publicsums"], apart := false }
def FnIDPartsRebuildSaid : Prop := fnIDPartsRebuildRow.holds Trym.pinned (OpenSpec.ofChange fnIDPartsRebuildSpec)

/-- ITS FALSE NEIGHBOUR: 'it returns false'. Refute it at one input. -/
def fnIDPartsRebuildWrong : ChangeSpec := { name := "fnIDPartsRebuild", fn := fun _ => fun
  | [d] => { results := [.lit (.bool false)], args := [d] }
  | _ => none }
def FnIDPartsRebuildWrongFalsely : Prop := fnIDPartsRebuildRow.holds Trym.pinned (OpenSpec.ofChange fnIDPartsRebuildWrong)

/-- 'zzlaws_root_b1.FnIDPartsOrder': WHATEVER THE INPUT: true; the input reads as it did. -/
def fnIDPartsOrderSpec : ChangeSpec := { name := "fnIDPartsOrder", fn := fun _ => fun
  | [d1, d2] => { results := [.lit (.bool true)], args := [d1, d2] }
  | _ => none }
def fnIDPartsOrderRow : OpenClaim := { program := "qxb6601885amods", sum := "ff850e8d31d61b1271cdbe86197ad1ac807dccfc773daab1700408e484b377de", func := "example.com/keyholder/keyholder/zzlaws_root_b1.FnIDPartsOrder", spec := "fnIDPartsOrder", make := .lifted ["publicsums"], apart := false }
def FnIDPartsOrderSaid : Prop := fnIDPartsOrderRow.holds Trym.pinned (OpenSpec.ofChange fnIDPartsOrderSpec)

/-- ITS FALSE NEIGHBOUR: 'it returns false'. Refute it at one input. -/
def fnIDPartsOrderWrong : ChangeSpec := { name := "fnIDPartsOrder", fn := fun _ => fun
  | [d1, d2] => { results := [.lit (.bool false)], args := [d1, d2] }
  | _ => none }
def FnIDPartsOrderWrongFalsely : Prop := fnIDPartsOrderRow.holds Trym.pinned (OpenSpec.ofChange fnIDPartsOrderWrong)

end Rows
end Go.Proofs.Qxb6601885aMods
