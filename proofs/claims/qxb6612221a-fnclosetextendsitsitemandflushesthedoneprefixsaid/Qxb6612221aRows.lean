/-
  No cell of these rows narrows 'for every input' (looked for: loops, veiled, ifaces, maps, wideKeys, modest, calm, conditions, laid).
  DERIVED. THE GIVEN ROWS OF THIS SEAT. 3 by the template 'for every input the law returns true; each argument reads behind the call as it read before'; 0 by the template 'total and deterministic' (their statements: Qxb6612221aTotals.lean).
  GIVEN WITH THE SEED: the statements are not yours to turn. If you find one false, say at which input.
  Laid BY PROGRAM, IN A SANDBOX (cutbox-rows.mjs): the forced cells as the released guide's own fill.sh prints them over the translation 0f1dbcc34b8de243… (all of the seat's roots in one cut). By AI agents, Wed Nov 11 2026. No macro, syntax, notation, axiom, sorry.
-/
import Derived.Test.Qxb6612221aChecked
import GoSem.Claim
import GoSem.ClaimJoined
import GoSem.ClaimMapViews
import Derived.JoinedTies
import Derived.KernelRfl
namespace Go.Proofs.Qxb6612221a
/- THE CELL 'sum', in the pinned program and in every row, IS THE sha256 OF THE DUMP (.gsa) THAT Qxb6612221aProg.lean LOADS. Nothing in Lean hashes anything: it is a label: what it is worth is what the hold of that sum in a sandbox is worth. -/
noncomputable def Try.pinned : Pinned := { name := "qxb6612221a", sum := "0f1dbcc34b8de2433e0a34df2c2be6077395c199c233f5500e782d5b70956b74", checked := Try.checked }
namespace Rows
def none {H : Type} : Left H := { results := [], args := [] }

/-- 'zzlaws_engine_b1.FnSpentFreesExactlyTheCappedCalls': WHATEVER THE INPUT: true; the input reads as it did. -/
def fnSpentFreesExactlyTheCappedCallsSpec : ChangeSpec := { name := "fnSpentFreesExactlyTheCappedCalls", fn := fun _ => fun
  | [d1, d2] => { results := [.lit (.bool true)], args := [d1, d2] }
  | _ => none }
def fnSpentFreesExactlyTheCappedCallsRow : OpenClaim := { program := "qxb6612221a", sum := "0f1dbcc34b8de2433e0a34df2c2be6077395c199c233f5500e782d5b70956b74", func := "example.com/deft-loop/deft-loop/zzlaws_engine_b1.FnSpentFreesExactlyTheCappedCalls", spec := "fnSpentFreesExactlyTheCappedCalls", apart := false }
def FnSpentFreesExactlyTheCappedCallsSaid : Prop := fnSpentFreesExactlyTheCappedCallsRow.holds Try.pinned (OpenSpec.ofChange fnSpentFreesExactlyTheCappedCallsSpec)

/-- ITS FALSE NEIGHBOUR: 'it returns false'. Refute it at one input. -/
def fnSpentFreesExactlyTheCappedCallsWrong : ChangeSpec := { name := "fnSpentFreesExactlyTheCappedCalls", fn := fun _ => fun
  | [d1, d2] => { results := [.lit (.bool false)], args := [d1, d2] }
  | _ => none }
def FnSpentFreesExactlyTheCappedCallsWrongFalsely : Prop := fnSpentFreesExactlyTheCappedCallsRow.holds Try.pinned (OpenSpec.ofChange fnSpentFreesExactlyTheCappedCallsWrong)

/-- 'zzlaws_engine_b1.FnSpentTurnsOnceAtTheCap': WHATEVER THE INPUT: true; the input reads as it did. -/
def fnSpentTurnsOnceAtTheCapSpec : ChangeSpec := { name := "fnSpentTurnsOnceAtTheCap", fn := fun _ => fun
  | [d1, d2] => { results := [.lit (.bool true)], args := [d1, d2] }
  | _ => none }
def fnSpentTurnsOnceAtTheCapRow : OpenClaim := { program := "qxb6612221a", sum := "0f1dbcc34b8de2433e0a34df2c2be6077395c199c233f5500e782d5b70956b74", func := "example.com/deft-loop/deft-loop/zzlaws_engine_b1.FnSpentTurnsOnceAtTheCap", spec := "fnSpentTurnsOnceAtTheCap", apart := false }
def FnSpentTurnsOnceAtTheCapSaid : Prop := fnSpentTurnsOnceAtTheCapRow.holds Try.pinned (OpenSpec.ofChange fnSpentTurnsOnceAtTheCapSpec)

/-- ITS FALSE NEIGHBOUR: 'it returns false'. Refute it at one input. -/
def fnSpentTurnsOnceAtTheCapWrong : ChangeSpec := { name := "fnSpentTurnsOnceAtTheCap", fn := fun _ => fun
  | [d1, d2] => { results := [.lit (.bool false)], args := [d1, d2] }
  | _ => none }
def FnSpentTurnsOnceAtTheCapWrongFalsely : Prop := fnSpentTurnsOnceAtTheCapRow.holds Try.pinned (OpenSpec.ofChange fnSpentTurnsOnceAtTheCapWrong)

/-- 'zzlaws_engine_b1.FnCloseTextEndsItsItemAndFlushesTheDonePrefix': WHATEVER THE INPUT: true; the input reads as it did. -/
def fnCloseTextEndsItsItemAndFlushesTheDonePrefixSpec : ChangeSpec := { name := "fnCloseTextEndsItsItemAndFlushesTheDonePrefix", fn := fun _ => fun
  | [d1, d2, d3, d4, d5, d6, d7, d8, d9] => { results := [.lit (.bool true)], args := [d1, d2, d3, d4, d5, d6, d7, d8, d9] }
  | _ => none }
def fnCloseTextEndsItsItemAndFlushesTheDonePrefixRow : OpenClaim := { program := "qxb6612221a", sum := "0f1dbcc34b8de2433e0a34df2c2be6077395c199c233f5500e782d5b70956b74", func := "example.com/deft-loop/deft-loop/zzlaws_engine_b1.FnCloseTextEndsItsItemAndFlushesTheDonePrefix", spec := "fnCloseTextEndsItsItemAndFlushesTheDonePrefix", unfollowed := true, recurses := true, apart := false }
def FnCloseTextEndsItsItemAndFlushesTheDonePrefixSaid : Prop := fnCloseTextEndsItsItemAndFlushesTheDonePrefixRow.holds Try.pinned (OpenSpec.ofChange fnCloseTextEndsItsItemAndFlushesTheDonePrefixSpec)

/-- ITS FALSE NEIGHBOUR: 'it returns false'. Refute it at one input. -/
def fnCloseTextEndsItsItemAndFlushesTheDonePrefixWrong : ChangeSpec := { name := "fnCloseTextEndsItsItemAndFlushesTheDonePrefix", fn := fun _ => fun
  | [d1, d2, d3, d4, d5, d6, d7, d8, d9] => { results := [.lit (.bool false)], args := [d1, d2, d3, d4, d5, d6, d7, d8, d9] }
  | _ => none }
def FnCloseTextEndsItsItemAndFlushesTheDonePrefixWrongFalsely : Prop := fnCloseTextEndsItsItemAndFlushesTheDonePrefixRow.holds Try.pinned (OpenSpec.ofChange fnCloseTextEndsItsItemAndFlushesTheDonePrefixWrong)

end Rows
end Go.Proofs.Qxb6612221a
