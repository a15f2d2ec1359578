/-
  No cell of these rows narrows 'for every input' (looked for: loops, veiled, ifaces, maps, wideKeys, modest, calm, conditions, laid).
  DERIVED. THE GIVEN ROWS OF THIS SEAT. 2 by the template 'for every input the law returns true; each argument reads behind the call as it read before'; 0 by the template 'total and deterministic' (their statements: Qxb6628620aTotals.lean).
  GIVEN WITH THE SEED: the statements are not yours to turn. If you find one false, say at which input.
  Laid BY PROGRAM, IN A SANDBOX (cutbox-rows.mjs): the forced cells as the released guide's own fill.sh prints them over the translation 5777724252013248… (all of the seat's roots in one cut). By AI agents, Wed Nov 11 2026. No macro, syntax, notation, axiom, sorry.
-/
import Derived.Test.Qxb6628620aChecked
import GoSem.Claim
import GoSem.ClaimJoined
import GoSem.ClaimMapViews
import Derived.JoinedTies
import Derived.KernelRfl
namespace Go.Proofs.Qxb6628620a
/- THE CELL 'sum', in the pinned program and in every row, IS THE sha256 OF THE DUMP (.gsa) THAT Qxb6628620aProg.lean LOADS. Nothing in Lean hashes anything: it is a label: what it is worth is what the hold of that sum in a sandbox is worth. -/
noncomputable def Try.pinned : Pinned := { name := "qxb6628620a", sum := "5777724252013248c59d5b4e16555f0d2933c1b7f055ffc4b8466b85b39b7f54", checked := Try.checked }
namespace Rows
def none {H : Type} : Left H := { results := [], args := [] }

/-- 'zzlaws_internal_config_b1.FnTasksIsBuildsTasksThenReleases': WHATEVER THE INPUT: true; the input reads as it did. -/
def fnTasksIsBuildsTasksThenReleasesSpec : ChangeSpec := { name := "fnTasksIsBuildsTasksThenReleases", fn := fun _ => fun
  | [d1, d2, d3, d4, d5, d6] => { results := [.lit (.bool true)], args := [d1, d2, d3, d4, d5, d6] }
  | _ => none }
def fnTasksIsBuildsTasksThenReleasesRow : OpenClaim := { program := "qxb6628620a", sum := "5777724252013248c59d5b4e16555f0d2933c1b7f055ffc4b8466b85b39b7f54", func := "example.com/dayfly/dayfly/zzlaws_internal_config_b1.FnTasksIsBuildsTasksThenReleases", spec := "fnTasksIsBuildsTasksThenReleases", apart := false }
def FnTasksIsBuildsTasksThenReleasesSaid : Prop := fnTasksIsBuildsTasksThenReleasesRow.holds Try.pinned (OpenSpec.ofChange fnTasksIsBuildsTasksThenReleasesSpec)

/-- ITS FALSE NEIGHBOUR: 'it returns false'. Refute it at one input. -/
def fnTasksIsBuildsTasksThenReleasesWrong : ChangeSpec := { name := "fnTasksIsBuildsTasksThenReleases", fn := fun _ => fun
  | [d1, d2, d3, d4, d5, d6] => { results := [.lit (.bool false)], args := [d1, d2, d3, d4, d5, d6] }
  | _ => none }
def FnTasksIsBuildsTasksThenReleasesWrongFalsely : Prop := fnTasksIsBuildsTasksThenReleasesRow.holds Try.pinned (OpenSpec.ofChange fnTasksIsBuildsTasksThenReleasesWrong)

/-- 'zzlaws_internal_config_b1.FnTasksSwapReversesAndIgnoresTheRest': WHATEVER THE INPUT: true; the input reads as it did. -/
def fnTasksSwapReversesAndIgnoresTheRestSpec : ChangeSpec := { name := "fnTasksSwapReversesAndIgnoresTheRest", fn := fun _ => fun
  | [d1, d2, d3, d4, d5, d6, d7, d8, d9] => { results := [.lit (.bool true)], args := [d1, d2, d3, d4, d5, d6, d7, d8, d9] }
  | _ => none }
def fnTasksSwapReversesAndIgnoresTheRestRow : OpenClaim := { program := "qxb6628620a", sum := "5777724252013248c59d5b4e16555f0d2933c1b7f055ffc4b8466b85b39b7f54", func := "example.com/dayfly/dayfly/zzlaws_internal_config_b1.FnTasksSwapReversesAndIgnoresTheRest", spec := "fnTasksSwapReversesAndIgnoresTheRest", apart := false }
def FnTasksSwapReversesAndIgnoresTheRestSaid : Prop := fnTasksSwapReversesAndIgnoresTheRestRow.holds Try.pinned (OpenSpec.ofChange fnTasksSwapReversesAndIgnoresTheRestSpec)

/-- ITS FALSE NEIGHBOUR: 'it returns false'. Refute it at one input. -/
def fnTasksSwapReversesAndIgnoresTheRestWrong : ChangeSpec := { name := "fnTasksSwapReversesAndIgnoresTheRest", fn := fun _ => fun
  | [d1, d2, d3, d4, d5, d6, d7, d8, d9] => { results := [.lit (.bool false)], args := [d1, d2, d3, d4, d5, d6, d7, d8, d9] }
  | _ => none }
def FnTasksSwapReversesAndIgnoresTheRestWrongFalsely : Prop := fnTasksSwapReversesAndIgnoresTheRestRow.holds Try.pinned (OpenSpec.ofChange fnTasksSwapReversesAndIgnoresTheRestWrong)

end Rows
end Go.Proofs.Qxb6628620a
