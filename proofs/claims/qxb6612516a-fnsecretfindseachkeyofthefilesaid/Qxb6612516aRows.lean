/-
  No cell of these rows narrows 'for every input' (looked for: loops, veiled, ifaces, maps, wideKeys, modest, calm, conditions, laid).
  DERIVED. THE GIVEN ROWS OF THIS SEAT. 1 by the template 'for every input the law returns true; each argument reads behind the call as it read before'; 0 by the template 'total and deterministic' (their statements: Qxb6612516aTotals.lean).
  GIVEN WITH THE SEED: the statements are not yours to turn. If you find one false, say at which input.
  Laid BY PROGRAM, IN A SANDBOX (cutbox-rows.mjs): the forced cells as the released guide's own fill.sh prints them over the translation 2b74445dacd5e8c9… (all of the seat's roots in one cut). By AI agents, Wed Nov 11 2026. No macro, syntax, notation, axiom, sorry.
-/
import Derived.Test.Qxb6612516aChecked
import GoSem.Claim
import GoSem.ClaimJoined
import GoSem.ClaimMapViews
import Derived.JoinedTies
import Derived.KernelRfl
namespace Go.Proofs.Qxb6612516a
/- THE CELL 'sum', in the pinned program and in every row, IS THE sha256 OF THE DUMP (.gsa) THAT Qxb6612516aProg.lean LOADS. Nothing in Lean hashes anything: it is a label: what it is worth is what the hold of that sum in a sandbox is worth. -/
noncomputable def Try.pinned : Pinned := { name := "qxb6612516a", sum := "2b74445dacd5e8c98fc734b5df7dc452c2d20b52724231c96832663790a9063b", checked := Try.checked }
namespace Rows
def none {H : Type} : Left H := { results := [], args := [] }

/-- 'zzlaws_pkg_rules_b1.FnSecretFindsEachKeyOfTheFile': WHATEVER THE INPUT: true; the input reads as it did. -/
def fnSecretFindsEachKeyOfTheFileSpec : ChangeSpec := { name := "fnSecretFindsEachKeyOfTheFile", fn := fun _ => fun
  | [d1, d2] => { results := [.lit (.bool true)], args := [d1, d2] }
  | _ => none }
def fnSecretFindsEachKeyOfTheFileRow : OpenClaim := { program := "qxb6612516a", sum := "2b74445dacd5e8c98fc734b5df7dc452c2d20b52724231c96832663790a9063b", func := "example.com/sluicegate/sluicegate/zzlaws_pkg_rules_b1.FnSecretFindsEachKeyOfTheFile", spec := "fnSecretFindsEachKeyOfTheFile", unfollowed := true, recurses := true, apart := false }
def FnSecretFindsEachKeyOfTheFileSaid : Prop := fnSecretFindsEachKeyOfTheFileRow.holds Try.pinned (OpenSpec.ofChange fnSecretFindsEachKeyOfTheFileSpec)

/-- ITS FALSE NEIGHBOUR: 'it returns false'. Refute it at one input. -/
def fnSecretFindsEachKeyOfTheFileWrong : ChangeSpec := { name := "fnSecretFindsEachKeyOfTheFile", fn := fun _ => fun
  | [d1, d2] => { results := [.lit (.bool false)], args := [d1, d2] }
  | _ => none }
def FnSecretFindsEachKeyOfTheFileWrongFalsely : Prop := fnSecretFindsEachKeyOfTheFileRow.holds Try.pinned (OpenSpec.ofChange fnSecretFindsEachKeyOfTheFileWrong)

end Rows
end Go.Proofs.Qxb6612516a
