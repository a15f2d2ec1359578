/-
  No cell of these rows narrows 'for every input' (looked for: loops, veiled, ifaces, maps, wideKeys, modest, calm, conditions, laid).
  DERIVED. THE GIVEN ROWS OF THIS SEAT. 2 by the template 'for every input the law returns true; each argument reads behind the call as it read before'; 0 by the template 'total and deterministic' (their statements: Qxb6628533aTotals.lean).
  GIVEN WITH THE SEED: the statements are not yours to turn. If you find one false, say at which input.
  Laid BY PROGRAM, IN A SANDBOX (cutbox-rows.mjs): the forced cells as the released guide's own fill.sh prints them over the translation 9ac18ab2a64b06a5… (all of the seat's roots in one cut). By AI agents, Wed Nov 11 2026. No macro, syntax, notation, axiom, sorry.
-/
import Derived.Test.Qxb6628533aChecked
import GoSem.Claim
import GoSem.ClaimJoined
import GoSem.ClaimMapViews
import Derived.JoinedTies
import Derived.KernelRfl
namespace Go.Proofs.Qxb6628533a
/- THE CELL 'sum', in the pinned program and in every row, IS THE sha256 OF THE DUMP (.gsa) THAT Qxb6628533aProg.lean LOADS. Nothing in Lean hashes anything: it is a label: what it is worth is what the hold of that sum in a sandbox is worth. -/
noncomputable def Try.pinned : Pinned := { name := "qxb6628533a", sum := "9ac18ab2a64b06a56ead0cd0b76c72bc37bfcedb8ff619158e2b43f3039943bf", checked := Try.checked }
namespace Rows
def none {H : Type} : Left H := { results := [], args := [] }

/-- 'zzlaws_internal_membership_b1.FnByIDInsertAnywhere': WHATEVER THE INPUT: true; the input reads as it did. -/
def fnByIDInsertAnywhereSpec : ChangeSpec := { name := "fnByIDInsertAnywhere", fn := fun _ => fun
  | [d1, d2, d3, d4, d5, d6] => { results := [.lit (.bool true)], args := [d1, d2, d3, d4, d5, d6] }
  | _ => none }
def fnByIDInsertAnywhereRow : OpenClaim := { program := "qxb6628533a", sum := "9ac18ab2a64b06a56ead0cd0b76c72bc37bfcedb8ff619158e2b43f3039943bf", func := "example.com/tessera/tessera/zzlaws_internal_membership_b1.FnByIDInsertAnywhere", spec := "fnByIDInsertAnywhere", apart := false }
def FnByIDInsertAnywhereSaid : Prop := fnByIDInsertAnywhereRow.holds Try.pinned (OpenSpec.ofChange fnByIDInsertAnywhereSpec)

/-- ITS FALSE NEIGHBOUR: 'it returns false'. Refute it at one input. -/
def fnByIDInsertAnywhereWrong : ChangeSpec := { name := "fnByIDInsertAnywhere", fn := fun _ => fun
  | [d1, d2, d3, d4, d5, d6] => { results := [.lit (.bool false)], args := [d1, d2, d3, d4, d5, d6] }
  | _ => none }
def FnByIDInsertAnywhereWrongFalsely : Prop := fnByIDInsertAnywhereRow.holds Try.pinned (OpenSpec.ofChange fnByIDInsertAnywhereWrong)

/-- 'zzlaws_internal_membership_b1.FnByIDCutAnywhere': WHATEVER THE INPUT: true; the input reads as it did. -/
def fnByIDCutAnywhereSpec : ChangeSpec := { name := "fnByIDCutAnywhere", fn := fun _ => fun
  | [d1, d2, d3, d4, d5] => { results := [.lit (.bool true)], args := [d1, d2, d3, d4, d5] }
  | _ => none }
def fnByIDCutAnywhereRow : OpenClaim := { program := "qxb6628533a", sum := "9ac18ab2a64b06a56ead0cd0b76c72bc37bfcedb8ff619158e2b43f3039943bf", func := "example.com/tessera/tessera/zzlaws_internal_membership_b1.FnByIDCutAnywhere", spec := "fnByIDCutAnywhere", apart := false }
def FnByIDCutAnywhereSaid : Prop := fnByIDCutAnywhereRow.holds Try.pinned (OpenSpec.ofChange fnByIDCutAnywhereSpec)

/-- ITS FALSE NEIGHBOUR: 'it returns false'. Refute it at one input. -/
def fnByIDCutAnywhereWrong : ChangeSpec := { name := "fnByIDCutAnywhere", fn := fun _ => fun
  | [d1, d2, d3, d4, d5] => { results := [.lit (.bool false)], args := [d1, d2, d3, d4, d5] }
  | _ => none }
def FnByIDCutAnywhereWrongFalsely : Prop := fnByIDCutAnywhereRow.holds Try.pinned (OpenSpec.ofChange fnByIDCutAnywhereWrong)

end Rows
end Go.Proofs.Qxb6628533a
