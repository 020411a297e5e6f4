/-
  No cell of these rows narrows 'for every input' (looked for: loops, veiled, ifaces, maps, wideKeys, modest, calm, conditions, laid).
  DERIVED. THE GIVEN ROWS OF THIS SEAT. 3 by the template 'for every input the law returns true; each argument reads behind the call as it read before'; 0 by the template 'total and deterministic' (their statements: Qxb6615850aTotals.lean).
  GIVEN WITH THE SEED: the statements are not yours to turn. If you find one false, say at which input.
  Laid BY PROGRAM, IN A SANDBOX (cutbox-rows.mjs): the forced cells as the released guide's own fill.sh prints them over the translation 4b616fbab7f8dbb3… (all of the seat's roots in one cut). By AI agents, Wed Nov 11 2026. No macro, syntax, notation, axiom, sorry.
-/
import Derived.Test.Qxb6615850aChecked
import GoSem.Claim
import GoSem.ClaimJoined
import GoSem.ClaimMapViews
import Derived.JoinedTies
import Derived.KernelRfl
namespace Go.Proofs.Qxb6615850a
/- THE CELL 'sum', in the pinned program and in every row, IS THE sha256 OF THE DUMP (.gsa) THAT Qxb6615850aProg.lean LOADS. Nothing in Lean hashes anything: it is a label: what it is worth is what the hold of that sum in a sandbox is worth. -/
noncomputable def Try.pinned : Pinned := { name := "qxb6615850a", sum := "4b616fbab7f8dbb30c1d1444192a60c786ec3603badb6a71ac3ccf4c0c41ac24", checked := Try.checked }
namespace Rows
def none {H : Type} : Left H := { results := [], args := [] }

/-- 'zzlaws_simulation_b1.FnEndedReleasesExactlyItsLocks': WHATEVER THE INPUT: true; the input reads as it did. -/
def fnEndedReleasesExactlyItsLocksSpec : ChangeSpec := { name := "fnEndedReleasesExactlyItsLocks", fn := fun _ => fun
  | [d1, d2, d3, d4] => { results := [.lit (.bool true)], args := [d1, d2, d3, d4] }
  | _ => none }
def fnEndedReleasesExactlyItsLocksRow : OpenClaim := { program := "qxb6615850a", sum := "4b616fbab7f8dbb30c1d1444192a60c786ec3603badb6a71ac3ccf4c0c41ac24", func := "example.com/schedulock/schedulock/zzlaws_simulation_b1.FnEndedReleasesExactlyItsLocks", spec := "fnEndedReleasesExactlyItsLocks", unfollowed := true, recurses := true, apart := false }
def FnEndedReleasesExactlyItsLocksSaid : Prop := fnEndedReleasesExactlyItsLocksRow.holds Try.pinned (OpenSpec.ofChange fnEndedReleasesExactlyItsLocksSpec)

/-- ITS FALSE NEIGHBOUR: 'it returns false'. Refute it at one input. -/
def fnEndedReleasesExactlyItsLocksWrong : ChangeSpec := { name := "fnEndedReleasesExactlyItsLocks", fn := fun _ => fun
  | [d1, d2, d3, d4] => { results := [.lit (.bool false)], args := [d1, d2, d3, d4] }
  | _ => none }
def FnEndedReleasesExactlyItsLocksWrongFalsely : Prop := fnEndedReleasesExactlyItsLocksRow.holds Try.pinned (OpenSpec.ofChange fnEndedReleasesExactlyItsLocksWrong)

/-- 'zzlaws_simulation_b1.FnCommitsThenEndedFreesOnlyT': WHATEVER THE INPUT: true; the input reads as it did. -/
def fnCommitsThenEndedFreesOnlyTSpec : ChangeSpec := { name := "fnCommitsThenEndedFreesOnlyT", fn := fun _ => fun
  | [d1, d2, d3, d4, d5] => { results := [.lit (.bool true)], args := [d1, d2, d3, d4, d5] }
  | _ => none }
def fnCommitsThenEndedFreesOnlyTRow : OpenClaim := { program := "qxb6615850a", sum := "4b616fbab7f8dbb30c1d1444192a60c786ec3603badb6a71ac3ccf4c0c41ac24", func := "example.com/schedulock/schedulock/zzlaws_simulation_b1.FnCommitsThenEndedFreesOnlyT", spec := "fnCommitsThenEndedFreesOnlyT", unfollowed := true, recurses := true, apart := false }
def FnCommitsThenEndedFreesOnlyTSaid : Prop := fnCommitsThenEndedFreesOnlyTRow.holds Try.pinned (OpenSpec.ofChange fnCommitsThenEndedFreesOnlyTSpec)

/-- ITS FALSE NEIGHBOUR: 'it returns false'. Refute it at one input. -/
def fnCommitsThenEndedFreesOnlyTWrong : ChangeSpec := { name := "fnCommitsThenEndedFreesOnlyT", fn := fun _ => fun
  | [d1, d2, d3, d4, d5] => { results := [.lit (.bool false)], args := [d1, d2, d3, d4, d5] }
  | _ => none }
def FnCommitsThenEndedFreesOnlyTWrongFalsely : Prop := fnCommitsThenEndedFreesOnlyTRow.holds Try.pinned (OpenSpec.ofChange fnCommitsThenEndedFreesOnlyTWrong)

/-- 'zzlaws_simulation_b1.FnCommitScriptReleasesExactlyTheEnded': WHATEVER THE INPUT: true; the input reads as it did. -/
def fnCommitScriptReleasesExactlyTheEndedSpec : ChangeSpec := { name := "fnCommitScriptReleasesExactlyTheEnded", fn := fun _ => fun
  | [d1, d2, d3, d4, d5] => { results := [.lit (.bool true)], args := [d1, d2, d3, d4, d5] }
  | _ => none }
def fnCommitScriptReleasesExactlyTheEndedRow : OpenClaim := { program := "qxb6615850a", sum := "4b616fbab7f8dbb30c1d1444192a60c786ec3603badb6a71ac3ccf4c0c41ac24", func := "example.com/schedulock/schedulock/zzlaws_simulation_b1.FnCommitScriptReleasesExactlyTheEnded", spec := "fnCommitScriptReleasesExactlyTheEnded", unfollowed := true, recurses := true, apart := false }
def FnCommitScriptReleasesExactlyTheEndedSaid : Prop := fnCommitScriptReleasesExactlyTheEndedRow.holds Try.pinned (OpenSpec.ofChange fnCommitScriptReleasesExactlyTheEndedSpec)

/-- ITS FALSE NEIGHBOUR: 'it returns false'. Refute it at one input. -/
def fnCommitScriptReleasesExactlyTheEndedWrong : ChangeSpec := { name := "fnCommitScriptReleasesExactlyTheEnded", fn := fun _ => fun
  | [d1, d2, d3, d4, d5] => { results := [.lit (.bool false)], args := [d1, d2, d3, d4, d5] }
  | _ => none }
def FnCommitScriptReleasesExactlyTheEndedWrongFalsely : Prop := fnCommitScriptReleasesExactlyTheEndedRow.holds Try.pinned (OpenSpec.ofChange fnCommitScriptReleasesExactlyTheEndedWrong)

end Rows
end Go.Proofs.Qxb6615850a
