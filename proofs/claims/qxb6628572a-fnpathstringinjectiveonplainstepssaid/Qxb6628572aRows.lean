/-
  No cell of these rows narrows 'for every input' (looked for: loops, veiled, ifaces, maps, wideKeys, modest, calm, conditions, laid).
  DERIVED. THE GIVEN ROWS OF THIS SEAT. 2 by the template 'for every input the law returns true; each argument reads behind the call as it read before'; 0 by the template 'total and deterministic' (their statements: Qxb6628572aTotals.lean).
  GIVEN WITH THE SEED: the statements are not yours to turn. If you find one false, say at which input.
  Laid BY PROGRAM, IN A SANDBOX (cutbox-rows.mjs): the forced cells as the released guide's own fill.sh prints them over the translation 4abae150967244ea… (all of the seat's roots in one cut). By AI agents, Wed Nov 11 2026. No macro, syntax, notation, axiom, sorry.
-/
import Derived.Test.Qxb6628572aChecked
import GoSem.Claim
import GoSem.ClaimJoined
import GoSem.ClaimMapViews
import Derived.JoinedTies
import Derived.KernelRfl
namespace Go.Proofs.Qxb6628572a
/- THE CELL 'sum', in the pinned program and in every row, IS THE sha256 OF THE DUMP (.gsa) THAT Qxb6628572aProg.lean LOADS. Nothing in Lean hashes anything: it is a label: what it is worth is what the hold of that sum in a sandbox is worth. -/
noncomputable def Try.pinned : Pinned := { name := "qxb6628572a", sum := "4abae150967244ea5ad543d7ee7e3cf42780368b394f151b4eead77485f2a7ea", checked := Try.checked }
namespace Rows
def none {H : Type} : Left H := { results := [], args := [] }

/-- 'zzlaws_internal_ops_b1.FnPathStringCutJoins': WHATEVER THE INPUT: true; the input reads as it did. -/
def fnPathStringCutJoinsSpec : ChangeSpec := { name := "fnPathStringCutJoins", fn := fun _ => fun
  | [d1, d2] => { results := [.lit (.bool true)], args := [d1, d2] }
  | _ => none }
def fnPathStringCutJoinsRow : OpenClaim := { program := "qxb6628572a", sum := "4abae150967244ea5ad543d7ee7e3cf42780368b394f151b4eead77485f2a7ea", func := "example.com/capstan/capstan/zzlaws_internal_ops_b1.FnPathStringCutJoins", spec := "fnPathStringCutJoins", inPlace := ["internal/abi.NoEscape"], apart := false }
def FnPathStringCutJoinsSaid : Prop := fnPathStringCutJoinsRow.holds Try.pinned (OpenSpec.ofChange fnPathStringCutJoinsSpec)

/-- ITS FALSE NEIGHBOUR: 'it returns false'. Refute it at one input. -/
def fnPathStringCutJoinsWrong : ChangeSpec := { name := "fnPathStringCutJoins", fn := fun _ => fun
  | [d1, d2] => { results := [.lit (.bool false)], args := [d1, d2] }
  | _ => none }
def FnPathStringCutJoinsWrongFalsely : Prop := fnPathStringCutJoinsRow.holds Try.pinned (OpenSpec.ofChange fnPathStringCutJoinsWrong)

/-- 'zzlaws_internal_ops_b1.FnPathStringInjectiveOnPlainSteps': WHATEVER THE INPUT: true; the input reads as it did. -/
def fnPathStringInjectiveOnPlainStepsSpec : ChangeSpec := { name := "fnPathStringInjectiveOnPlainSteps", fn := fun _ => fun
  | [d1, d2] => { results := [.lit (.bool true)], args := [d1, d2] }
  | _ => none }
def fnPathStringInjectiveOnPlainStepsRow : OpenClaim := { program := "qxb6628572a", sum := "4abae150967244ea5ad543d7ee7e3cf42780368b394f151b4eead77485f2a7ea", func := "example.com/capstan/capstan/zzlaws_internal_ops_b1.FnPathStringInjectiveOnPlainSteps", spec := "fnPathStringInjectiveOnPlainSteps", inPlace := ["internal/abi.NoEscape"], apart := false }
def FnPathStringInjectiveOnPlainStepsSaid : Prop := fnPathStringInjectiveOnPlainStepsRow.holds Try.pinned (OpenSpec.ofChange fnPathStringInjectiveOnPlainStepsSpec)

/-- ITS FALSE NEIGHBOUR: 'it returns false'. Refute it at one input. -/
def fnPathStringInjectiveOnPlainStepsWrong : ChangeSpec := { name := "fnPathStringInjectiveOnPlainSteps", fn := fun _ => fun
  | [d1, d2] => { results := [.lit (.bool false)], args := [d1, d2] }
  | _ => none }
def FnPathStringInjectiveOnPlainStepsWrongFalsely : Prop := fnPathStringInjectiveOnPlainStepsRow.holds Try.pinned (OpenSpec.ofChange fnPathStringInjectiveOnPlainStepsWrong)

end Rows
end Go.Proofs.Qxb6628572a
