import Derived.Test.Qxb6616096aDoorLimOK
import Derived.Test.Qxb6616096aDoorAt
namespace Go.Proofs.Qxb6616096aDoor
open Go.RowKit
set_option linter.unusedVariables false
set_option linter.unusedSimpArgs false
set_option maxRecDepth 100000
open Pl Flt Ieee

/-- A slice argument. -/
structure IsSl (w : World) (a : Option Addr) (n : Nat) (v : Nat → Value) : Prop where
  small : n ≤ 9223372036854775807
  at_ : 0 < n → ∃ b o, a = some ⟨b, o, Option.none⟩ ∧ ∀ j, j < n → w.cell? ⟨b, o + j, Option.none⟩ = some (v j)

theorem IsSl.below {w w' : World} {a : Option Addr} {n : Nat} {v : Nat → Value} (h : IsSl w a n v) (hb : Below w.heap.size w w') : IsSl w' a n v :=
  ⟨h.small, fun hn => by
    obtain ⟨b, o, h1, h2⟩ := h.at_ hn
    exact ⟨b, o, h1, fun j hj => (hb.cell (World.block_lt_of_cell? w _ (h2 j hj))).trans (h2 j hj)⟩⟩

def RetB (e : Ending) : Prop := ∃ b : Bool, e = .returned (.bool b)
theorem retB (b : Bool) : RetB (.returned (.bool b)) := ⟨b, rfl⟩

set_option maxHeartbeats 1000000 in
theorem bytes7 (burst per i now : Int) (mn mx it ic dc t : Nat) (a1 a2 a3 a4 a5 : Option Addr) (l1 l2 l3 l4 l5 c1 c2 c3 c4 c5 : Nat) (h1 : l1 ≤ 9223372036854775807) (h2 : l2 ≤ 9223372036854775807) (h3 : l3 ≤ 9223372036854775807) (h4 : l4 ≤ 9223372036854775807) (h5 : l5 ≤ 9223372036854775807) (w : World) :
    Calls Tryd.prog 7 #[.agg #[.int .i64 burst, .float .f64 mn, .float .f64 mx, .float .f64 it, .float .f64 ic, .float .f64 dc, .int .i64 per], .slice a1 l1 c1, .slice a2 l2 c2, .slice a3 l3 c3, .slice a4 l4 c4, .slice a5 l5 c5, .int .i64 i, .float .f64 t, .int .i64 now] w fun e w' => RetB e ∧ Below w.heap.size w w' := by
  have HB : Hid (Below w.heap.size w (w.alloc (.cells #[.int .i64 burst, .float .f64 mn, .float .f64 mx, .float .f64 it, .float .f64 ic, .float .f64 dc, .int .i64 per] 24))) := (Below.refl _ _).alloc (Nat.le_refl _) _
  go_enter Tryd.func7, Tryd.ntmps7
  go_wp2_with fail
  all_goals (go_ret; exact ⟨retB _, HB.out⟩)

/-- Between the least and the greatest rate. -/
theorem between {t mn mx : Nat} (ht : t < 2 ^ 64) (h0 : 0 < mn) (h1 : mn ≤ mx) (h2 : mx < 9218868437227405312) (g3 : (FloatKind.f64.format.order t mn == some .gt || FloatKind.f64.format.order t mn == some .eq) = true)
    (g4 : (FloatKind.f64.format.order t mx == some .lt || FloatKind.f64.format.order t mx == some .eq) = true) : mn ≤ t ∧ t ≤ mx := by
  obtain ⟨a3, a4⟩ := ge_pos t mn ht h0 (by omega) g3
  refine ⟨a3, ?_⟩
  have g4' : (double.order t mx == some .lt || double.order t mx == some .eq) = true := g4
  rw [order_pos t mx a4 (by omega)] at g4'
  apply Nat.le_of_not_lt
  intro hlt
  rw [Nat.compare_eq_gt.2 hlt] at g4'
  exact absurd g4' (by decide)

/-- What the premise gives. -/
structure Prem (burst : Int) (mn mx it : Nat) (per : Int) (l1 l2 l3 l4 l5 : Nat) (tok pha : Nat → Int) (own : Nat → Nat) (has : Nat → Bool) (i : Int) (t : Nat) : Prop where
  lim : LimOK burst mn mx it per
  e2 : l2 = l1
  e3 : l3 = l1
  e4 : l4 = l1
  e5 : l5 = l1
  i0 : 0 ≤ i
  i1 : i < (l1 : Int)
  t : mn ≤ t ∧ t ≤ mx
  own : ∀ j, j < l1 → has j = true → mn ≤ own j ∧ own j ≤ mx
  tok : tok i.toNat = -1 ∨ (0 ≤ tok i.toNat ∧ tok i.toNat ≤ burst ∧ pha i.toNat = 0)

def RetPrem (burst : Int) (mn mx it : Nat) (per : Int) (l1 l2 l3 l4 l5 : Nat) (tok pha : Nat → Int) (own : Nat → Nat) (has : Nat → Bool) (i : Int) (t : Nat) (e : Ending) : Prop :=
  ∃ b : Bool, e = .returned (.bool b) ∧ (b = true → Prem burst mn mx it per l1 l2 l3 l4 l5 tok pha own has i t)
theorem retPrem_false {burst : Int} {mn mx it : Nat} {per : Int} {l1 l2 l3 l4 l5 : Nat} {tok pha : Nat → Int} {own : Nat → Nat} {has : Nat → Bool} {i : Int} {t : Nat} : RetPrem burst mn mx it per l1 l2 l3 l4 l5 tok pha own has i t (.returned (.bool false)) := ⟨false, rfl, fun h => by cases h⟩

end Go.Proofs.Qxb6616096aDoor
