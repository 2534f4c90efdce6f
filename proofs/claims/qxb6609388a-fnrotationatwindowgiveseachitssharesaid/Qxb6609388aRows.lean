/-
  No cell of these rows narrows 'for every input' (looked for: loops, veiled, ifaces, maps, wideKeys, modest, calm, conditions, laid).
  DERIVED. THE GIVEN ROWS OF THIS SEAT. 3 by the template 'for every input the law returns true; each argument reads behind the call as it read before'; 0 by the template 'total and deterministic' (their statements: Qxb6609388aTotals.lean).
  GIVEN WITH THE SEED: the statements are not yours to turn. If you find one false, say at which input.
  Laid BY PROGRAM, IN A SANDBOX (cutbox-rows.mjs): the forced cells as the released guide's own fill.sh prints them over the translation 198c6255b52f02f8… (all of the seat's roots in one cut). By AI agents, Wed Nov 11 2026. No macro, syntax, notation, axiom, sorry.
-/
import Derived.Test.Qxb6609388aChecked
import GoSem.Claim
import GoSem.ClaimJoined
import GoSem.ClaimMapViews
import Derived.JoinedTies
import Derived.KernelRfl
namespace Go.Proofs.Qxb6609388a
/- THE CELL 'sum', in the pinned program and in every row, IS THE sha256 OF THE DUMP (.gsa) THAT Qxb6609388aProg.lean LOADS. Nothing in Lean hashes anything: it is a label: what it is worth is what the hold of that sum in a sandbox is worth. -/
noncomputable def Try.pinned : Pinned := { name := "qxb6609388a", sum := "198c6255b52f02f82a70ada31fbca16ec18730d04f1da6765a5b79e2a4cdd340", checked := Try.checked }
namespace Rows
def none {H : Type} : Left H := { results := [], args := [] }

/-- 'zzlaws_root_b1.FnRotationTabledWhenEveryShareIsShort': WHATEVER THE INPUT: true; the input reads as it did. -/
def fnRotationTabledWhenEveryShareIsShortSpec : ChangeSpec := { name := "fnRotationTabledWhenEveryShareIsShort", fn := fun _ => fun
  | [d] => { results := [.lit (.bool true)], args := [d] }
  | _ => none }
def fnRotationTabledWhenEveryShareIsShortRow : OpenClaim := { program := "qxb6609388a", sum := "198c6255b52f02f82a70ada31fbca16ec18730d04f1da6765a5b79e2a4cdd340", func := "example.com/evenkeel/evenkeel/zzlaws_root_b1.FnRotationTabledWhenEveryShareIsShort", spec := "fnRotationTabledWhenEveryShareIsShort", apart := false }
def FnRotationTabledWhenEveryShareIsShortSaid : Prop := fnRotationTabledWhenEveryShareIsShortRow.holds Try.pinned (OpenSpec.ofChange fnRotationTabledWhenEveryShareIsShortSpec)

/-- ITS FALSE NEIGHBOUR: 'it returns false'. Refute it at one input. -/
def fnRotationTabledWhenEveryShareIsShortWrong : ChangeSpec := { name := "fnRotationTabledWhenEveryShareIsShort", fn := fun _ => fun
  | [d] => { results := [.lit (.bool false)], args := [d] }
  | _ => none }
def FnRotationTabledWhenEveryShareIsShortWrongFalsely : Prop := fnRotationTabledWhenEveryShareIsShortRow.holds Try.pinned (OpenSpec.ofChange fnRotationTabledWhenEveryShareIsShortWrong)

/-- 'zzlaws_root_b1.FnRotationAtSpreadOfTwo': WHATEVER THE INPUT: true; the input reads as it did. -/
def fnRotationAtSpreadOfTwoSpec : ChangeSpec := { name := "fnRotationAtSpreadOfTwo", fn := fun _ => fun
  | [d1, d2, d3, d4, d5] => { results := [.lit (.bool true)], args := [d1, d2, d3, d4, d5] }
  | _ => none }
def fnRotationAtSpreadOfTwoRow : OpenClaim := { program := "qxb6609388a", sum := "198c6255b52f02f82a70ada31fbca16ec18730d04f1da6765a5b79e2a4cdd340", func := "example.com/evenkeel/evenkeel/zzlaws_root_b1.FnRotationAtSpreadOfTwo", spec := "fnRotationAtSpreadOfTwo", inPlace := ["math/bits.Sub64"], named := ["math/bits.divideError", "math/bits.overflowError"], apart := false }
def FnRotationAtSpreadOfTwoSaid : Prop := fnRotationAtSpreadOfTwoRow.holds Try.pinned (OpenSpec.ofChange fnRotationAtSpreadOfTwoSpec)

/-- ITS FALSE NEIGHBOUR: 'it returns false'. Refute it at one input. -/
def fnRotationAtSpreadOfTwoWrong : ChangeSpec := { name := "fnRotationAtSpreadOfTwo", fn := fun _ => fun
  | [d1, d2, d3, d4, d5] => { results := [.lit (.bool false)], args := [d1, d2, d3, d4, d5] }
  | _ => none }
def FnRotationAtSpreadOfTwoWrongFalsely : Prop := fnRotationAtSpreadOfTwoRow.holds Try.pinned (OpenSpec.ofChange fnRotationAtSpreadOfTwoWrong)

/-- 'zzlaws_root_b1.FnRotationAtWindowGivesEachItsShare': WHATEVER THE INPUT: true; the input reads as it did. -/
def fnRotationAtWindowGivesEachItsShareSpec : ChangeSpec := { name := "fnRotationAtWindowGivesEachItsShare", fn := fun _ => fun
  | [d1, d2, d3, d4, d5] => { results := [.lit (.bool true)], args := [d1, d2, d3, d4, d5] }
  | _ => none }
def fnRotationAtWindowGivesEachItsShareRow : OpenClaim := { program := "qxb6609388a", sum := "198c6255b52f02f82a70ada31fbca16ec18730d04f1da6765a5b79e2a4cdd340", func := "example.com/evenkeel/evenkeel/zzlaws_root_b1.FnRotationAtWindowGivesEachItsShare", spec := "fnRotationAtWindowGivesEachItsShare", inPlace := ["math/bits.Sub64"], named := ["math/bits.divideError", "math/bits.overflowError"], apart := false }
def FnRotationAtWindowGivesEachItsShareSaid : Prop := fnRotationAtWindowGivesEachItsShareRow.holds Try.pinned (OpenSpec.ofChange fnRotationAtWindowGivesEachItsShareSpec)

/-- ITS FALSE NEIGHBOUR: 'it returns false'. Refute it at one input. -/
def fnRotationAtWindowGivesEachItsShareWrong : ChangeSpec := { name := "fnRotationAtWindowGivesEachItsShare", fn := fun _ => fun
  | [d1, d2, d3, d4, d5] => { results := [.lit (.bool false)], args := [d1, d2, d3, d4, d5] }
  | _ => none }
def FnRotationAtWindowGivesEachItsShareWrongFalsely : Prop := fnRotationAtWindowGivesEachItsShareRow.holds Try.pinned (OpenSpec.ofChange fnRotationAtWindowGivesEachItsShareWrong)

end Rows
end Go.Proofs.Qxb6609388a
