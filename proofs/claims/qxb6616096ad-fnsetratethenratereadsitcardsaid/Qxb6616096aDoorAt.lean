import Derived.Test.Qxb6616096aDoorLib2
import Derived.Below
import Derived.Deep.LoopGhost
import Derived.Deep.DeepCutAuto
import Derived.Deep.RegionHeld3
import Derived.BigQuiet
import Derived.BigRegion
import Derived.Deep.AppendLies
import Derived.Laws.MakeOwn
namespace Go.Proofs.Qxb6616096aDoor
open Go.RowKit
set_option linter.unusedVariables false
set_option linter.unusedSimpArgs false
set_option maxRecDepth 100000

/-- A rate in memory. -/
structure RateAt (B q : Nat) (m o e d f : Int) (w : World) : Prop where
  c0 : w.cell? ⟨B, q, Option.none⟩ = some (.int .u64 m)
  c1 : w.cell? ⟨B, q + 1, Option.none⟩ = some (.int .u64 o)
  c2 : w.cell? ⟨B, q + 2, Option.none⟩ = some (.int .i64 e)
  c3 : w.cell? ⟨B, q + 3, Option.none⟩ = some (.int .u64 d)
  c4 : w.cell? ⟨B, q + 4, Option.none⟩ = some (.int .u64 f)

theorem RateAt.below {B q : Nat} {m o e d f : Int} {w w' : World} (h : RateAt B q m o e d f w) (hb : Below w.heap.size w w') : RateAt B q m o e d f w' := by
  have l0 := World.block_lt_of_cell? w _ h.c0
  exact ⟨(hb.cell (p := ⟨B, q, Option.none⟩) l0).trans h.c0, (hb.cell (p := ⟨B, q + 1, Option.none⟩) l0).trans h.c1, (hb.cell (p := ⟨B, q + 2, Option.none⟩) l0).trans h.c2, (hb.cell (p := ⟨B, q + 3, Option.none⟩) l0).trans h.c3, (hb.cell (p := ⟨B, q + 4, Option.none⟩) l0).trans h.c4⟩

theorem RateAt.drew {B q : Nat} {m o e d f : Int} {w : World} (h : RateAt B q m o e d f w) : RateAt B q m o e d f w.drew := ⟨h.c0, h.c1, h.c2, h.c3, h.c4⟩

/-- Where the rate of key i lies: its own, or the limit's. -/
def rateLies (p : Option Nat) (KB KO : Nat) : Addr := match p with
  | some B => ⟨B, 1, Option.none⟩
  | Option.none => ⟨KB, KO + 1, Option.none⟩
def ptr? (p : Option Nat) : Value := match p with
  | some B => .pointer (some ⟨B, 0, Option.none⟩)
  | Option.none => .pointer Option.none

/-- A 64-bit word. -/
def Word (x : Int) : Prop := 0 ≤ x ∧ x < 18446744073709551616
def RetZ (Z : Prop) (e : Ending) : Prop := ∃ x : Int, e = .returned (.int .u64 x) ∧ Word x ∧ (Z → x = 0)
/-- What refill answers of a bucket without a fraction. -/
def RetRefill (burst T L now : Int) (e : Ending) : Prop := ∃ T' P' : Int, e = .returned (.agg #[.int .i64 T', .int .u64 P', .int .i64 (if L < now then now else L)]) ∧ T ≤ T' ∧ T' ≤ burst ∧ Word P' ∧ (T' = burst → P' = 0) ∧ (now ≤ L → T' = T ∧ P' = 0)

end Go.Proofs.Qxb6616096aDoor
