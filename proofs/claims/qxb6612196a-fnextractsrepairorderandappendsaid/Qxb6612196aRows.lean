/-
  No cell of these rows narrows 'for every input' (looked for: loops, veiled, ifaces, maps, wideKeys, modest, calm, conditions, laid).
  DERIVED. THE GIVEN ROWS OF THIS SEAT. 1 by the template 'for every input the law returns true; each argument reads behind the call as it read before'; 0 by the template 'total and deterministic' (their statements: Qxb6612196aTotals.lean).
  GIVEN WITH THE SEED: the statements are not yours to turn. If you find one false, say at which input.
  Laid BY PROGRAM, IN A SANDBOX (cutbox-rows.mjs): the forced cells as the released guide's own fill.sh prints them over the translation 37d0bc8d4e5e9c57… (all of the seat's roots in one cut). By AI agents, Wed Nov 11 2026. No macro, syntax, notation, axiom, sorry.
-/
import Derived.Test.Qxb6612196aChecked
import GoSem.Claim
import GoSem.ClaimJoined
import GoSem.ClaimMapViews
import Derived.JoinedTies
import Derived.KernelRfl
namespace Go.Proofs.Qxb6612196a
/- THE CELL 'sum', in the pinned program and in every row, IS THE sha256 OF THE DUMP (.gsa) THAT Qxb6612196aProg.lean LOADS. Nothing in Lean hashes anything: it is a label: what it is worth is what the hold of that sum in a sandbox is worth. -/
noncomputable def Try.pinned : Pinned := { name := "qxb6612196a", sum := "37d0bc8d4e5e9c57d5b502a2fa911a534b5ebc5188e51dc2198508f50c003aa3", checked := Try.checked }
namespace Rows
def none {H : Type} : Left H := { results := [], args := [] }

/-- 'zzlaws_desc_b1.FnExtractsRepairOrderAndAppend': WHATEVER THE INPUT: true; the input reads as it did. -/
def fnExtractsRepairOrderAndAppendSpec : ChangeSpec := { name := "fnExtractsRepairOrderAndAppend", fn := fun _ => fun
  | [d1, d2, d3] => { results := [.lit (.bool true)], args := [d1, d2, d3] }
  | _ => none }
def fnExtractsRepairOrderAndAppendRow : OpenClaim := { program := "qxb6612196a", sum := "37d0bc8d4e5e9c57d5b502a2fa911a534b5ebc5188e51dc2198508f50c003aa3", func := "example.com/kernsmith/kernsmith/zzlaws_desc_b1.FnExtractsRepairOrderAndAppend", spec := "fnExtractsRepairOrderAndAppend", unfollowed := true, recurses := true, apart := false }
def FnExtractsRepairOrderAndAppendSaid : Prop := fnExtractsRepairOrderAndAppendRow.holds Try.pinned (OpenSpec.ofChange fnExtractsRepairOrderAndAppendSpec)

/-- ITS FALSE NEIGHBOUR: 'it returns false'. Refute it at one input. -/
def fnExtractsRepairOrderAndAppendWrong : ChangeSpec := { name := "fnExtractsRepairOrderAndAppend", fn := fun _ => fun
  | [d1, d2, d3] => { results := [.lit (.bool false)], args := [d1, d2, d3] }
  | _ => none }
def FnExtractsRepairOrderAndAppendWrongFalsely : Prop := fnExtractsRepairOrderAndAppendRow.holds Try.pinned (OpenSpec.ofChange fnExtractsRepairOrderAndAppendWrong)

end Rows
end Go.Proofs.Qxb6612196a
