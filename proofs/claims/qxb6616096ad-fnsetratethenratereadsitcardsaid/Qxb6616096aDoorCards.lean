/-
  DERIVED. GIVEN WITH THE SEED: THE CARDS: each row of Qxb6616096aDoorRows.lean that lists a variable, with what it lists TIED to the program's text (the seventh form; the later family's looks); each row that meets fmt, with fmt's text TOLD by the authors' own Lean function (tested against real Go, not proved from fmt's source: count such statements apart). THE CARD IS WHAT COUNTS. Prove the row's statement (the work); the ties are given (Qxb6616096aDoorTie.lean); close each card by the builder's one call (the guide's Derived/Test/ToyasCard.lean, 'card_holds'). Laid BY PROGRAM, IN A SANDBOX (cutbox-door.mjs). By AI agents, Wed Nov 11 2026. No macro, syntax, notation, axiom, sorry.
-/
import Derived.Test.Qxb6616096aDoorRows
import GoSem.ClaimSeven
namespace Go.Proofs.Qxb6616096aDoor
namespace Rows

/-- THE TIED CARD OF 'zzlaws_root_b1.FnSetRateThenRateReadsIt'. -/
def fnSetRateThenRateReadsItCard : Claim7 := { stood := { row := fnSetRateThenRateReadsItRow, standIns := [], harness := (true, "6e56a65cce935dc76f777ce54eefe0209c7a14015783530a7c6003103a0e0dd2"), looks := false }, kinds := [], alts := [], laidByText := true, laidKinds := [.data], laidTests := true, laidLooks := .later }
def FnSetRateThenRateReadsItCardSaid : Prop := Claim7.holds Tryd.pinned (.plain (OpenSpec.ofChange fnSetRateThenRateReadsItSpec)) fnSetRateThenRateReadsItCard

/-- THE TIED CARD OF 'zzlaws_root_b1.FnSetRateTwiceIsOnce'. -/
def fnSetRateTwiceIsOnceCard : Claim7 := { stood := { row := fnSetRateTwiceIsOnceRow, standIns := [], harness := (true, "6e56a65cce935dc76f777ce54eefe0209c7a14015783530a7c6003103a0e0dd2"), looks := false }, kinds := [], alts := [], laidByText := true, laidKinds := [.data], laidTests := true, laidLooks := .later }
def FnSetRateTwiceIsOnceCardSaid : Prop := Claim7.holds Tryd.pinned (.plain (OpenSpec.ofChange fnSetRateTwiceIsOnceSpec)) fnSetRateTwiceIsOnceCard

/-- THE TIED CARD OF 'zzlaws_root_b1.FnNewKeyedLimitIsTheExactRate'. -/
def fnNewKeyedLimitIsTheExactRateCard : Claim7 := { stood := { row := fnNewKeyedLimitIsTheExactRateRow, standIns := [], harness := (true, "6e56a65cce935dc76f777ce54eefe0209c7a14015783530a7c6003103a0e0dd2"), looks := false }, kinds := [], alts := [], laidByText := true, laidKinds := [.data], laidTests := true, laidLooks := .later }
def FnNewKeyedLimitIsTheExactRateCardSaid : Prop := Claim7.holds Tryd.pinned (.plain (OpenSpec.ofChange fnNewKeyedLimitIsTheExactRateSpec)) fnNewKeyedLimitIsTheExactRateCard

/-- THE TIED CARD OF 'zzlaws_root_b1.FnNewKeyedLimitSameInEveryUnit'. -/
def fnNewKeyedLimitSameInEveryUnitCard : Claim7 := { stood := { row := fnNewKeyedLimitSameInEveryUnitRow, standIns := [], harness := (true, "6e56a65cce935dc76f777ce54eefe0209c7a14015783530a7c6003103a0e0dd2"), looks := false }, kinds := [], alts := [], laidByText := true, laidKinds := [.data], laidTests := true, laidLooks := .later }
def FnNewKeyedLimitSameInEveryUnitCardSaid : Prop := Claim7.holds Tryd.pinned (.plain (OpenSpec.ofChange fnNewKeyedLimitSameInEveryUnitSpec)) fnNewKeyedLimitSameInEveryUnitCard
end Rows
end Go.Proofs.Qxb6616096aDoor
