/-
  No cell of these rows narrows 'for every input' (looked for: loops, veiled, ifaces, maps, wideKeys, modest, calm, conditions, laid).
  DERIVED. THE GIVEN ROWS OF THIS SEAT. 1 by the template 'for every input the law returns true; each argument reads behind the call as it read before'; 0 by the template 'total and deterministic' (their statements: Qxb6615844aTotals.lean).
  GIVEN WITH THE SEED: the statements are not yours to turn. If you find one false, say at which input.
  Laid BY PROGRAM, IN A SANDBOX (cutbox-rows.mjs): the forced cells as the released guide's own fill.sh prints them over the translation 711e1feab719a396… (all of the seat's roots in one cut). By AI agents, Wed Nov 11 2026. No macro, syntax, notation, axiom, sorry.
-/
import Derived.Test.Qxb6615844aChecked
import GoSem.Claim
import GoSem.ClaimJoined
import GoSem.ClaimMapViews
import Derived.JoinedTies
import Derived.KernelRfl
namespace Go.Proofs.Qxb6615844a
/- THE CELL 'sum', in the pinned program and in every row, IS THE sha256 OF THE DUMP (.gsa) THAT Qxb6615844aProg.lean LOADS. Nothing in Lean hashes anything: it is a label: what it is worth is what the hold of that sum in a sandbox is worth. -/
noncomputable def Try.pinned : Pinned := { name := "qxb6615844a", sum := "711e1feab719a3960aa1ff5563be589b8a70ba258c41bc5ff7c097e5315861b9", checked := Try.checked }
namespace Rows
def none {H : Type} : Left H := { results := [], args := [] }

/-- 'zzlaws_rollcall_b1.FnRepeatEveryNeverFasterWhenLarger': WHATEVER THE INPUT: true; the input reads as it did. -/
def fnRepeatEveryNeverFasterWhenLargerSpec : ChangeSpec := { name := "fnRepeatEveryNeverFasterWhenLarger", fn := fun _ => fun
  | [d1, d2, d3, d4, d5] => { results := [.lit (.bool true)], args := [d1, d2, d3, d4, d5] }
  | _ => none }
def fnRepeatEveryNeverFasterWhenLargerRow : OpenClaim := { program := "qxb6615844a", sum := "711e1feab719a3960aa1ff5563be589b8a70ba258c41bc5ff7c097e5315861b9", func := "example.com/roundcall/roundcall/zzlaws_rollcall_b1.FnRepeatEveryNeverFasterWhenLarger", spec := "fnRepeatEveryNeverFasterWhenLarger", apart := false }
def FnRepeatEveryNeverFasterWhenLargerSaid : Prop := fnRepeatEveryNeverFasterWhenLargerRow.holds Try.pinned (OpenSpec.ofChange fnRepeatEveryNeverFasterWhenLargerSpec)

/-- ITS FALSE NEIGHBOUR: 'it returns false'. Refute it at one input. -/
def fnRepeatEveryNeverFasterWhenLargerWrong : ChangeSpec := { name := "fnRepeatEveryNeverFasterWhenLarger", fn := fun _ => fun
  | [d1, d2, d3, d4, d5] => { results := [.lit (.bool false)], args := [d1, d2, d3, d4, d5] }
  | _ => none }
def FnRepeatEveryNeverFasterWhenLargerWrongFalsely : Prop := fnRepeatEveryNeverFasterWhenLargerRow.holds Try.pinned (OpenSpec.ofChange fnRepeatEveryNeverFasterWhenLargerWrong)

end Rows
end Go.Proofs.Qxb6615844a
