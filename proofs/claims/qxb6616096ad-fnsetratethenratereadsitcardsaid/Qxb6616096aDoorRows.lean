/-
  NARROWER THAN 'FOR EVERY INPUT', by the rows' own cells (each row's printed sentence says how): FnSetRateThenRateReadsIt: laid · FnSetRateTwiceIsOnce: laid · FnNewKeyedLimitIsTheExactRate: laid · FnNewKeyedLimitSameInEveryUnit: laid.
  DERIVED. THE GIVEN ROWS OF THIS SEAT. 4 by the template 'for every input the law returns true; each argument reads behind the call as it read before'; 0 by the template 'total and deterministic' (their statements: Qxb6616096aDoorTotals.lean).
  GIVEN WITH THE SEED: the statements are not yours to turn. If you find one false, say at which input.
  Laid BY PROGRAM, IN A SANDBOX (cutbox-rows.mjs): the forced cells as the released guide's own fill.sh prints them over the translation aad38770c4821137… (all of the seat's roots in one cut). By AI agents, Wed Nov 11 2026. No macro, syntax, notation, axiom, sorry.
-/
import Derived.Test.Qxb6616096aDoorChecked
import GoSem.Claim
import GoSem.ClaimJoined
import GoSem.ClaimMapViews
import Derived.JoinedTies
import Derived.KernelRfl
namespace Go.Proofs.Qxb6616096aDoor
/- THE CELL 'sum', in the pinned program and in every row, IS THE sha256 OF THE DUMP (.gsa) THAT Qxb6616096aDoorProg.lean LOADS. Nothing in Lean hashes anything: it is a label: what it is worth is what the hold of that sum in a sandbox is worth. -/
noncomputable def Tryd.pinned : Pinned := { name := "qxb6616096adoor", sum := "aad38770c482113727cfc63d55d7965cdb307cf1cbe56076bbaa4b71250cb538", checked := Tryd.checked }
namespace Rows
def none {H : Type} : Left H := { results := [], args := [] }

/- WHAT THE LISTED PACKAGE-LEVEL VARIABLES READ AS WHEN THE CALL BEGINS. Each datum BY PROGRAM (the guide's laid-datum.mjs) off the statement by which the dump's own 'gosem.cut.vars' lays the variable. In a bare row this is a premise. The card (Qxb6616096aDoorCards.lean) ties it to the program's text. -/
def laid_math_bits_deBruijn64tab {H : Type} : DataW H := .agg [.lit (.int .u8 0), .lit (.int .u8 1), .lit (.int .u8 56), .lit (.int .u8 2), .lit (.int .u8 57), .lit (.int .u8 49), .lit (.int .u8 28), .lit (.int .u8 3), .lit (.int .u8 61), .lit (.int .u8 58), .lit (.int .u8 42), .lit (.int .u8 50), .lit (.int .u8 38), .lit (.int .u8 29), .lit (.int .u8 17), .lit (.int .u8 4), .lit (.int .u8 62), .lit (.int .u8 47), .lit (.int .u8 59), .lit (.int .u8 36), .lit (.int .u8 45), .lit (.int .u8 43), .lit (.int .u8 51), .lit (.int .u8 22), .lit (.int .u8 53), .lit (.int .u8 39), .lit (.int .u8 33), .lit (.int .u8 30), .lit (.int .u8 24), .lit (.int .u8 18), .lit (.int .u8 12), .lit (.int .u8 5), .lit (.int .u8 63), .lit (.int .u8 55), .lit (.int .u8 48), .lit (.int .u8 27), .lit (.int .u8 60), .lit (.int .u8 41), .lit (.int .u8 37), .lit (.int .u8 16), .lit (.int .u8 46), .lit (.int .u8 35), .lit (.int .u8 44), .lit (.int .u8 21), .lit (.int .u8 52), .lit (.int .u8 32), .lit (.int .u8 23), .lit (.int .u8 11), .lit (.int .u8 54), .lit (.int .u8 26), .lit (.int .u8 40), .lit (.int .u8 15), .lit (.int .u8 34), .lit (.int .u8 20), .lit (.int .u8 31), .lit (.int .u8 10), .lit (.int .u8 25), .lit (.int .u8 14), .lit (.int .u8 19), .lit (.int .u8 9), .lit (.int .u8 13), .lit (.int .u8 8), .lit (.int .u8 7), .lit (.int .u8 6)]

/-- 'zzlaws_root_b1.FnSetRateThenRateReadsIt': WHATEVER THE INPUT: true; the input reads as it did. -/
def fnSetRateThenRateReadsItSpec : ChangeSpec := { name := "fnSetRateThenRateReadsIt", fn := fun _ => fun
  | [d1, d2, d3, d4, d5, d6, d7, d8, d9] => { results := [.lit (.bool true)], args := [d1, d2, d3, d4, d5, d6, d7, d8, d9] }
  | _ => none }
def fnSetRateThenRateReadsItRow : OpenClaim := { program := "qxb6616096adoor", sum := "aad38770c482113727cfc63d55d7965cdb307cf1cbe56076bbaa4b71250cb538", func := "example.com/saguaro/saguaro/zzlaws_root_b1.FnSetRateThenRateReadsIt", spec := "fnSetRateThenRateReadsIt", inPlace := ["math.Float64bits", "math.Float64frombits", "math/bits.Add64", "math/bits.Sub64"], named := ["math/bits.deBruijn64tab", "math/bits.divideError", "math/bits.overflowError"], apart := false, laid := [("math/bits.deBruijn64tab", laid_math_bits_deBruijn64tab)] }
def FnSetRateThenRateReadsItSaid : Prop := fnSetRateThenRateReadsItRow.holds Tryd.pinned (OpenSpec.ofChange fnSetRateThenRateReadsItSpec)

/-- ITS FALSE NEIGHBOUR: 'it returns false'. Refute it at one input. -/
def fnSetRateThenRateReadsItWrong : ChangeSpec := { name := "fnSetRateThenRateReadsIt", fn := fun _ => fun
  | [d1, d2, d3, d4, d5, d6, d7, d8, d9] => { results := [.lit (.bool false)], args := [d1, d2, d3, d4, d5, d6, d7, d8, d9] }
  | _ => none }
def FnSetRateThenRateReadsItWrongFalsely : Prop := fnSetRateThenRateReadsItRow.holds Tryd.pinned (OpenSpec.ofChange fnSetRateThenRateReadsItWrong)

/-- 'zzlaws_root_b1.FnSetRateTwiceIsOnce': WHATEVER THE INPUT: true; the input reads as it did. -/
def fnSetRateTwiceIsOnceSpec : ChangeSpec := { name := "fnSetRateTwiceIsOnce", fn := fun _ => fun
  | [d1, d2, d3, d4, d5, d6, d7, d8, d9] => { results := [.lit (.bool true)], args := [d1, d2, d3, d4, d5, d6, d7, d8, d9] }
  | _ => none }
def fnSetRateTwiceIsOnceRow : OpenClaim := { program := "qxb6616096adoor", sum := "aad38770c482113727cfc63d55d7965cdb307cf1cbe56076bbaa4b71250cb538", func := "example.com/saguaro/saguaro/zzlaws_root_b1.FnSetRateTwiceIsOnce", spec := "fnSetRateTwiceIsOnce", inPlace := ["math.Float64bits", "math.Float64frombits", "math/bits.Add64", "math/bits.Sub64"], named := ["math/bits.deBruijn64tab", "math/bits.divideError", "math/bits.overflowError"], apart := false, laid := [("math/bits.deBruijn64tab", laid_math_bits_deBruijn64tab)] }
def FnSetRateTwiceIsOnceSaid : Prop := fnSetRateTwiceIsOnceRow.holds Tryd.pinned (OpenSpec.ofChange fnSetRateTwiceIsOnceSpec)

/-- ITS FALSE NEIGHBOUR: 'it returns false'. Refute it at one input. -/
def fnSetRateTwiceIsOnceWrong : ChangeSpec := { name := "fnSetRateTwiceIsOnce", fn := fun _ => fun
  | [d1, d2, d3, d4, d5, d6, d7, d8, d9] => { results := [.lit (.bool false)], args := [d1, d2, d3, d4, d5, d6, d7, d8, d9] }
  | _ => none }
def FnSetRateTwiceIsOnceWrongFalsely : Prop := fnSetRateTwiceIsOnceRow.holds Tryd.pinned (OpenSpec.ofChange fnSetRateTwiceIsOnceWrong)

/-- 'zzlaws_root_b1.FnNewKeyedLimitIsTheExactRate': WHATEVER THE INPUT: true; the input reads as it did. -/
def fnNewKeyedLimitIsTheExactRateSpec : ChangeSpec := { name := "fnNewKeyedLimitIsTheExactRate", fn := fun _ => fun
  | [d1, d2, d3] => { results := [.lit (.bool true)], args := [d1, d2, d3] }
  | _ => none }
def fnNewKeyedLimitIsTheExactRateRow : OpenClaim := { program := "qxb6616096adoor", sum := "aad38770c482113727cfc63d55d7965cdb307cf1cbe56076bbaa4b71250cb538", func := "example.com/saguaro/saguaro/zzlaws_root_b1.FnNewKeyedLimitIsTheExactRate", spec := "fnNewKeyedLimitIsTheExactRate", inPlace := ["math.Float64bits", "math.Float64frombits", "math/bits.Add64"], named := ["math/bits.deBruijn64tab", "math/bits.divideError", "math/bits.overflowError"], apart := false, laid := [("math/bits.deBruijn64tab", laid_math_bits_deBruijn64tab)] }
def FnNewKeyedLimitIsTheExactRateSaid : Prop := fnNewKeyedLimitIsTheExactRateRow.holds Tryd.pinned (OpenSpec.ofChange fnNewKeyedLimitIsTheExactRateSpec)

/-- ITS FALSE NEIGHBOUR: 'it returns false'. Refute it at one input. -/
def fnNewKeyedLimitIsTheExactRateWrong : ChangeSpec := { name := "fnNewKeyedLimitIsTheExactRate", fn := fun _ => fun
  | [d1, d2, d3] => { results := [.lit (.bool false)], args := [d1, d2, d3] }
  | _ => none }
def FnNewKeyedLimitIsTheExactRateWrongFalsely : Prop := fnNewKeyedLimitIsTheExactRateRow.holds Tryd.pinned (OpenSpec.ofChange fnNewKeyedLimitIsTheExactRateWrong)

/-- 'zzlaws_root_b1.FnNewKeyedLimitSameInEveryUnit': WHATEVER THE INPUT: true; the input reads as it did. -/
def fnNewKeyedLimitSameInEveryUnitSpec : ChangeSpec := { name := "fnNewKeyedLimitSameInEveryUnit", fn := fun _ => fun
  | [d1, d2, d3, d4] => { results := [.lit (.bool true)], args := [d1, d2, d3, d4] }
  | _ => none }
def fnNewKeyedLimitSameInEveryUnitRow : OpenClaim := { program := "qxb6616096adoor", sum := "aad38770c482113727cfc63d55d7965cdb307cf1cbe56076bbaa4b71250cb538", func := "example.com/saguaro/saguaro/zzlaws_root_b1.FnNewKeyedLimitSameInEveryUnit", spec := "fnNewKeyedLimitSameInEveryUnit", inPlace := ["math.Float64bits", "math.Float64frombits", "math/bits.Add64"], named := ["math/bits.deBruijn64tab", "math/bits.divideError", "math/bits.overflowError"], apart := false, laid := [("math/bits.deBruijn64tab", laid_math_bits_deBruijn64tab)] }
def FnNewKeyedLimitSameInEveryUnitSaid : Prop := fnNewKeyedLimitSameInEveryUnitRow.holds Tryd.pinned (OpenSpec.ofChange fnNewKeyedLimitSameInEveryUnitSpec)

/-- ITS FALSE NEIGHBOUR: 'it returns false'. Refute it at one input. -/
def fnNewKeyedLimitSameInEveryUnitWrong : ChangeSpec := { name := "fnNewKeyedLimitSameInEveryUnit", fn := fun _ => fun
  | [d1, d2, d3, d4] => { results := [.lit (.bool false)], args := [d1, d2, d3, d4] }
  | _ => none }
def FnNewKeyedLimitSameInEveryUnitWrongFalsely : Prop := fnNewKeyedLimitSameInEveryUnitRow.holds Tryd.pinned (OpenSpec.ofChange fnNewKeyedLimitSameInEveryUnitWrong)

end Rows
end Go.Proofs.Qxb6616096aDoor
