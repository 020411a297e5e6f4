/-
  No cell of these rows narrows 'for every input' (looked for: loops, veiled, ifaces, maps, wideKeys, modest, calm, conditions, laid).
  DERIVED. THE GIVEN ROWS OF THIS SEAT. 5 by the template 'for every input the law returns true; each argument reads behind the call as it read before'; 0 by the template 'total and deterministic' (their statements: Qxb6616210aTotals.lean).
  GIVEN WITH THE SEED: the statements are not yours to turn. If you find one false, say at which input.
  Laid BY PROGRAM, IN A SANDBOX (cutbox-rows.mjs): the forced cells as the released guide's own fill.sh prints them over the translation 50a29d8e6981cc7b… (all of the seat's roots in one cut). By AI agents, Wed Nov 11 2026. No macro, syntax, notation, axiom, sorry.
-/
import Derived.Test.Qxb6616210aChecked
import GoSem.Claim
import GoSem.ClaimJoined
import GoSem.ClaimMapViews
import Derived.JoinedTies
import Derived.KernelRfl
namespace Go.Proofs.Qxb6616210a
/- THE CELL 'sum', in the pinned program and in every row, IS THE sha256 OF THE DUMP (.gsa) THAT Qxb6616210aProg.lean LOADS. Nothing in Lean hashes anything: it is a label: what it is worth is what the hold of that sum in a sandbox is worth. -/
noncomputable def Try.pinned : Pinned := { name := "qxb6616210a", sum := "50a29d8e6981cc7b3192fc67a9e37b1a3f386f4e350974e084f0e93382e2931f", checked := Try.checked }
namespace Rows
def none {H : Type} : Left H := { results := [], args := [] }

/-- 'zzlaws_internal_picker_b1.FnRarityAddKeepsGroupsByCount': WHATEVER THE INPUT: true; the input reads as it did. -/
def fnRarityAddKeepsGroupsByCountSpec : ChangeSpec := { name := "fnRarityAddKeepsGroupsByCount", fn := fun _ => fun
  | [d1, d2, d3, d4] => { results := [.lit (.bool true)], args := [d1, d2, d3, d4] }
  | _ => none }
def fnRarityAddKeepsGroupsByCountRow : OpenClaim := { program := "qxb6616210a", sum := "50a29d8e6981cc7b3192fc67a9e37b1a3f386f4e350974e084f0e93382e2931f", func := "example.com/swarmwright/swarmwright/zzlaws_internal_picker_b1.FnRarityAddKeepsGroupsByCount", spec := "fnRarityAddKeepsGroupsByCount", unfollowed := true, recurses := true, apart := false }
def FnRarityAddKeepsGroupsByCountSaid : Prop := fnRarityAddKeepsGroupsByCountRow.holds Try.pinned (OpenSpec.ofChange fnRarityAddKeepsGroupsByCountSpec)

/-- ITS FALSE NEIGHBOUR: 'it returns false'. Refute it at one input. -/
def fnRarityAddKeepsGroupsByCountWrong : ChangeSpec := { name := "fnRarityAddKeepsGroupsByCount", fn := fun _ => fun
  | [d1, d2, d3, d4] => { results := [.lit (.bool false)], args := [d1, d2, d3, d4] }
  | _ => none }
def FnRarityAddKeepsGroupsByCountWrongFalsely : Prop := fnRarityAddKeepsGroupsByCountRow.holds Try.pinned (OpenSpec.ofChange fnRarityAddKeepsGroupsByCountWrong)

/-- 'zzlaws_internal_picker_b1.FnRarityAddMovesOnlyItsPieceUpOneGroup': WHATEVER THE INPUT: true; the input reads as it did. -/
def fnRarityAddMovesOnlyItsPieceUpOneGroupSpec : ChangeSpec := { name := "fnRarityAddMovesOnlyItsPieceUpOneGroup", fn := fun _ => fun
  | [d1, d2, d3, d4, d5] => { results := [.lit (.bool true)], args := [d1, d2, d3, d4, d5] }
  | _ => none }
def fnRarityAddMovesOnlyItsPieceUpOneGroupRow : OpenClaim := { program := "qxb6616210a", sum := "50a29d8e6981cc7b3192fc67a9e37b1a3f386f4e350974e084f0e93382e2931f", func := "example.com/swarmwright/swarmwright/zzlaws_internal_picker_b1.FnRarityAddMovesOnlyItsPieceUpOneGroup", spec := "fnRarityAddMovesOnlyItsPieceUpOneGroup", unfollowed := true, recurses := true, apart := false }
def FnRarityAddMovesOnlyItsPieceUpOneGroupSaid : Prop := fnRarityAddMovesOnlyItsPieceUpOneGroupRow.holds Try.pinned (OpenSpec.ofChange fnRarityAddMovesOnlyItsPieceUpOneGroupSpec)

/-- ITS FALSE NEIGHBOUR: 'it returns false'. Refute it at one input. -/
def fnRarityAddMovesOnlyItsPieceUpOneGroupWrong : ChangeSpec := { name := "fnRarityAddMovesOnlyItsPieceUpOneGroup", fn := fun _ => fun
  | [d1, d2, d3, d4, d5] => { results := [.lit (.bool false)], args := [d1, d2, d3, d4, d5] }
  | _ => none }
def FnRarityAddMovesOnlyItsPieceUpOneGroupWrongFalsely : Prop := fnRarityAddMovesOnlyItsPieceUpOneGroupRow.holds Try.pinned (OpenSpec.ofChange fnRarityAddMovesOnlyItsPieceUpOneGroupWrong)

/-- 'zzlaws_internal_picker_b1.FnSetHaveTrueOnlyOnFirstAnnouncement': WHATEVER THE INPUT: true; the input reads as it did. -/
def fnSetHaveTrueOnlyOnFirstAnnouncementSpec : ChangeSpec := { name := "fnSetHaveTrueOnlyOnFirstAnnouncement", fn := fun _ => fun
  | [d1, d2, d3, d4, d5, d6] => { results := [.lit (.bool true)], args := [d1, d2, d3, d4, d5, d6] }
  | _ => none }
def fnSetHaveTrueOnlyOnFirstAnnouncementRow : OpenClaim := { program := "qxb6616210a", sum := "50a29d8e6981cc7b3192fc67a9e37b1a3f386f4e350974e084f0e93382e2931f", func := "example.com/swarmwright/swarmwright/zzlaws_internal_picker_b1.FnSetHaveTrueOnlyOnFirstAnnouncement", spec := "fnSetHaveTrueOnlyOnFirstAnnouncement", unfollowed := true, recurses := true, apart := false }
def FnSetHaveTrueOnlyOnFirstAnnouncementSaid : Prop := fnSetHaveTrueOnlyOnFirstAnnouncementRow.holds Try.pinned (OpenSpec.ofChange fnSetHaveTrueOnlyOnFirstAnnouncementSpec)

/-- ITS FALSE NEIGHBOUR: 'it returns false'. Refute it at one input. -/
def fnSetHaveTrueOnlyOnFirstAnnouncementWrong : ChangeSpec := { name := "fnSetHaveTrueOnlyOnFirstAnnouncement", fn := fun _ => fun
  | [d1, d2, d3, d4, d5, d6] => { results := [.lit (.bool false)], args := [d1, d2, d3, d4, d5, d6] }
  | _ => none }
def FnSetHaveTrueOnlyOnFirstAnnouncementWrongFalsely : Prop := fnSetHaveTrueOnlyOnFirstAnnouncementRow.holds Try.pinned (OpenSpec.ofChange fnSetHaveTrueOnlyOnFirstAnnouncementWrong)

/-- 'zzlaws_internal_picker_b1.FnAddedCountsWantedPiecesNotBanned': WHATEVER THE INPUT: true; the input reads as it did. -/
def fnAddedCountsWantedPiecesNotBannedSpec : ChangeSpec := { name := "fnAddedCountsWantedPiecesNotBanned", fn := fun _ => fun
  | [d1, d2, d3, d4, d5, d6, d7, d8] => { results := [.lit (.bool true)], args := [d1, d2, d3, d4, d5, d6, d7, d8] }
  | _ => none }
def fnAddedCountsWantedPiecesNotBannedRow : OpenClaim := { program := "qxb6616210a", sum := "50a29d8e6981cc7b3192fc67a9e37b1a3f386f4e350974e084f0e93382e2931f", func := "example.com/swarmwright/swarmwright/zzlaws_internal_picker_b1.FnAddedCountsWantedPiecesNotBanned", spec := "fnAddedCountsWantedPiecesNotBanned", unfollowed := true, recurses := true, apart := false }
def FnAddedCountsWantedPiecesNotBannedSaid : Prop := fnAddedCountsWantedPiecesNotBannedRow.holds Try.pinned (OpenSpec.ofChange fnAddedCountsWantedPiecesNotBannedSpec)

/-- ITS FALSE NEIGHBOUR: 'it returns false'. Refute it at one input. -/
def fnAddedCountsWantedPiecesNotBannedWrong : ChangeSpec := { name := "fnAddedCountsWantedPiecesNotBanned", fn := fun _ => fun
  | [d1, d2, d3, d4, d5, d6, d7, d8] => { results := [.lit (.bool false)], args := [d1, d2, d3, d4, d5, d6, d7, d8] }
  | _ => none }
def FnAddedCountsWantedPiecesNotBannedWrongFalsely : Prop := fnAddedCountsWantedPiecesNotBannedRow.holds Try.pinned (OpenSpec.ofChange fnAddedCountsWantedPiecesNotBannedWrong)

/-- 'zzlaws_internal_picker_b1.FnAddedAgreesWithSetHave': WHATEVER THE INPUT: true; the input reads as it did. -/
def fnAddedAgreesWithSetHaveSpec : ChangeSpec := { name := "fnAddedAgreesWithSetHave", fn := fun _ => fun
  | [d1, d2, d3, d4, d5, d6] => { results := [.lit (.bool true)], args := [d1, d2, d3, d4, d5, d6] }
  | _ => none }
def fnAddedAgreesWithSetHaveRow : OpenClaim := { program := "qxb6616210a", sum := "50a29d8e6981cc7b3192fc67a9e37b1a3f386f4e350974e084f0e93382e2931f", func := "example.com/swarmwright/swarmwright/zzlaws_internal_picker_b1.FnAddedAgreesWithSetHave", spec := "fnAddedAgreesWithSetHave", unfollowed := true, recurses := true, apart := false }
def FnAddedAgreesWithSetHaveSaid : Prop := fnAddedAgreesWithSetHaveRow.holds Try.pinned (OpenSpec.ofChange fnAddedAgreesWithSetHaveSpec)

/-- ITS FALSE NEIGHBOUR: 'it returns false'. Refute it at one input. -/
def fnAddedAgreesWithSetHaveWrong : ChangeSpec := { name := "fnAddedAgreesWithSetHave", fn := fun _ => fun
  | [d1, d2, d3, d4, d5, d6] => { results := [.lit (.bool false)], args := [d1, d2, d3, d4, d5, d6] }
  | _ => none }
def FnAddedAgreesWithSetHaveWrongFalsely : Prop := fnAddedAgreesWithSetHaveRow.holds Try.pinned (OpenSpec.ofChange fnAddedAgreesWithSetHaveWrong)

end Rows
end Go.Proofs.Qxb6616210a
