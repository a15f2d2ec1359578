/-
  No cell of these rows narrows 'for every input' (looked for: loops, veiled, ifaces, maps, wideKeys, modest, calm, conditions, laid).
  DERIVED. THE GIVEN ROWS OF THIS SEAT. 2 by the template 'for every input the law returns true; each argument reads behind the call as it read before'; 0 by the template 'total and deterministic' (their statements: Qxb6627999aTotals.lean).
  GIVEN WITH THE SEED: the statements are not yours to turn. If you find one false, say at which input.
  Laid BY PROGRAM, IN A SANDBOX (cutbox-rows.mjs): the forced cells as the released guide's own fill.sh prints them over the translation c72a1b4f50020eb4… (all of the seat's roots in one cut). By AI agents, Wed Nov 11 2026. No macro, syntax, notation, axiom, sorry.
-/
import Derived.Test.Qxb6627999aChecked
import GoSem.Claim
import GoSem.ClaimJoined
import GoSem.ClaimMapViews
import Derived.JoinedTies
import Derived.KernelRfl
namespace Go.Proofs.Qxb6627999a
/- THE CELL 'sum', in the pinned program and in every row, IS THE sha256 OF THE DUMP (.gsa) THAT Qxb6627999aProg.lean LOADS. Nothing in Lean hashes anything: it is a label: what it is worth is what the hold of that sum in a sandbox is worth. -/
noncomputable def Try.pinned : Pinned := { name := "qxb6627999a", sum := "c72a1b4f50020eb44af14777997a93e9e08d99ecc1f67faba9b6fe5d5f0da82c", checked := Try.checked }
namespace Rows
def none {H : Type} : Left H := { results := [], args := [] }

/-- 'zzlaws_internal_money_b1.FnMinusRemainderGivesBackTaken': WHATEVER THE INPUT: true; the input reads as it did. -/
def fnMinusRemainderGivesBackTakenSpec : ChangeSpec := { name := "fnMinusRemainderGivesBackTaken", fn := fun _ => fun
  | [d1, d2] => { results := [.lit (.bool true)], args := [d1, d2] }
  | _ => none }
def fnMinusRemainderGivesBackTakenRow : OpenClaim := { program := "qxb6627999a", sum := "c72a1b4f50020eb44af14777997a93e9e08d99ecc1f67faba9b6fe5d5f0da82c", func := "example.com/pouchbook/pouchbook/zzlaws_internal_money_b1.FnMinusRemainderGivesBackTaken", spec := "fnMinusRemainderGivesBackTaken", apart := false }
def FnMinusRemainderGivesBackTakenSaid : Prop := fnMinusRemainderGivesBackTakenRow.holds Try.pinned (OpenSpec.ofChange fnMinusRemainderGivesBackTakenSpec)

/-- ITS FALSE NEIGHBOUR: 'it returns false'. Refute it at one input. -/
def fnMinusRemainderGivesBackTakenWrong : ChangeSpec := { name := "fnMinusRemainderGivesBackTaken", fn := fun _ => fun
  | [d1, d2] => { results := [.lit (.bool false)], args := [d1, d2] }
  | _ => none }
def FnMinusRemainderGivesBackTakenWrongFalsely : Prop := fnMinusRemainderGivesBackTakenRow.holds Try.pinned (OpenSpec.ofChange fnMinusRemainderGivesBackTakenWrong)

/-- 'zzlaws_internal_money_b1.FnMinusInStepsEqualsAtOnce': WHATEVER THE INPUT: true; the input reads as it did. -/
def fnMinusInStepsEqualsAtOnceSpec : ChangeSpec := { name := "fnMinusInStepsEqualsAtOnce", fn := fun _ => fun
  | [d1, d2, d3] => { results := [.lit (.bool true)], args := [d1, d2, d3] }
  | _ => none }
def fnMinusInStepsEqualsAtOnceRow : OpenClaim := { program := "qxb6627999a", sum := "c72a1b4f50020eb44af14777997a93e9e08d99ecc1f67faba9b6fe5d5f0da82c", func := "example.com/pouchbook/pouchbook/zzlaws_internal_money_b1.FnMinusInStepsEqualsAtOnce", spec := "fnMinusInStepsEqualsAtOnce", apart := false }
def FnMinusInStepsEqualsAtOnceSaid : Prop := fnMinusInStepsEqualsAtOnceRow.holds Try.pinned (OpenSpec.ofChange fnMinusInStepsEqualsAtOnceSpec)

/-- ITS FALSE NEIGHBOUR: 'it returns false'. Refute it at one input. -/
def fnMinusInStepsEqualsAtOnceWrong : ChangeSpec := { name := "fnMinusInStepsEqualsAtOnce", fn := fun _ => fun
  | [d1, d2, d3] => { results := [.lit (.bool false)], args := [d1, d2, d3] }
  | _ => none }
def FnMinusInStepsEqualsAtOnceWrongFalsely : Prop := fnMinusInStepsEqualsAtOnceRow.holds Try.pinned (OpenSpec.ofChange fnMinusInStepsEqualsAtOnceWrong)

end Rows
end Go.Proofs.Qxb6627999a
