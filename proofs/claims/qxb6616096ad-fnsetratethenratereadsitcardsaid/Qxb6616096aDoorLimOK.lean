import Derived.Test.Qxb6616096aDoorFin
namespace Go.Proofs.Qxb6616096aDoor
open Go.RowKit
set_option linter.unusedVariables false
set_option linter.unusedSimpArgs false
set_option maxRecDepth 100000
open Pl Flt Ieee

/-- What limOK gives of an AdaptiveLimit. -/
structure LimOK (burst : Int) (mn mx it : Nat) (per : Int) : Prop where
  b1 : 1 ≤ burst
  b2 : burst ≤ 9007199254740992
  m0 : 0 < mn
  mx1 : mx < 9218868437227405312
  le : mn ≤ mx
  i1 : mn ≤ it
  i2 : it ≤ mx
  p : 0 < per

def RetLim (burst : Int) (mn mx it : Nat) (per : Int) (e : Ending) : Prop := ∃ b : Bool, e = .returned (.bool b) ∧ (b = true → LimOK burst mn mx it per)
theorem retLim_false {burst : Int} {mn mx it : Nat} {per : Int} : RetLim burst mn mx it per (.returned (.bool false)) := ⟨false, rfl, fun h => by cases h⟩

set_option maxHeartbeats 4000000 in
theorem limOK_c (burst per : Int) (mn mx it ic dc : Nat) (h1 : mn < 2 ^ 64) (h2 : mx < 2 ^ 64) (h3 : it < 2 ^ 64) (w : World) :
    Calls Tryd.prog 19 #[.agg #[.int .i64 burst, .float .f64 mn, .float .f64 mx, .float .f64 it, .float .f64 ic, .float .f64 dc, .int .i64 per]] w fun e w' => RetLim burst mn mx it per e ∧ Below w.heap.size w w' := by
  have C : Hid (∀ (x : Nat) w, Calls Tryd.prog 18 #[.float .f64 x] w fun e w' => RetFin x e ∧ ∃ n, w' = w.drewN n) := fun x w => finite_any x w
  have HB : Hid (∀ n, Below w.heap.size w ((w.alloc (.cells #[.int .i64 burst, .float .f64 mn, .float .f64 mx, .float .f64 it, .float .f64 ic, .float .f64 dc, .int .i64 per] 24)).drewN n)) := fun n => below_drewN ((Below.refl _ _).alloc (Nat.le_refl _) _) n
  by_cases b1 : burst < 1
  · have k : decide (burst < 1) = true := decide_eq_true b1
    go_enter Tryd.func19, Tryd.ntmps19
    go_wp2_with fail
    go_ret
    exact ⟨retLim_false, HB.out 0⟩
  have kb1 : decide (burst < 1) = false := decide_eq_false b1
  by_cases b2 : 9007199254740992 < burst
  · have k : decide (9007199254740992 < burst) = true := decide_eq_true b2
    go_enter Tryd.func19, Tryd.ntmps19
    go_wp2_with fail
    go_ret
    exact ⟨retLim_false, HB.out 0⟩
  have kb2 : decide (9007199254740992 < burst) = false := decide_eq_false b2
  cases g1 : (FloatKind.f64.format.order mn 0 == some .gt) with
  | false =>
    go_enter Tryd.func19, Tryd.ntmps19
    go_wp2_with fail
    go_ret
    exact ⟨retLim_false, HB.out 0⟩
  | true =>
  have P1 : Hid (0 < mn ∧ mn ≤ 2047 * 2 ^ 52) := pos_of_gt mn h1 g1
  go_enter Tryd.func19, Tryd.ntmps19
  go_wp2_with fail
  refine (C.out _ _).mono ?_
  rintro e w1 ⟨⟨x1, rfl, hx1⟩, n1, rfl⟩
  cases x1
  case false =>
    go_wp2_with fail
    go_ret
    exact ⟨retLim_false, HB.out _⟩
  have F1 : Hid _ := hx1 rfl
  clear hx1
  go_wp2_with fail
  refine (C.out _ _).mono ?_
  rintro e w1 ⟨⟨x2, rfl, hx2⟩, n2, rfl⟩
  cases x2
  case false =>
    go_wp2_with fail
    go_ret
    exact ⟨retLim_false, HB.out _⟩
  have F2 : Hid _ := hx2 rfl
  clear hx2
  cases g2 : (FloatKind.f64.format.order mx mn == some .gt || FloatKind.f64.format.order mx mn == some .eq) with
  | false =>
    go_wp2_with fail
    go_ret
    exact ⟨retLim_false, HB.out _⟩
  | true =>
  cases g3 : (FloatKind.f64.format.order it mn == some .gt || FloatKind.f64.format.order it mn == some .eq) with
  | false =>
    go_wp2_with fail
    go_ret
    exact ⟨retLim_false, HB.out _⟩
  | true =>
  cases g4 : (FloatKind.f64.format.order it mx == some .lt || FloatKind.f64.format.order it mx == some .eq) with
  | false =>
    go_wp2_with fail
    go_ret
    exact ⟨retLim_false, HB.out _⟩
  | true =>
  cases g5 : (FloatKind.f64.format.order ic 0 == some .gt) with
  | false =>
    go_wp2_with fail
    go_ret
    exact ⟨retLim_false, HB.out _⟩
  | true =>
  go_wp2_with fail
  refine (C.out _ _).mono ?_
  rintro e w1 ⟨⟨x3, rfl, hx3⟩, n3, rfl⟩
  cases x3
  case false =>
    go_wp2_with fail
    go_ret
    exact ⟨retLim_false, HB.out _⟩
  have F3 : Hid _ := hx3 rfl
  clear hx3
  go_wp2_with fail
  refine (C.out _ _).mono ?_
  rintro e w1 ⟨⟨x4, rfl, hx4⟩, n4, rfl⟩
  cases x4
  case false =>
    go_wp2_with fail
    go_ret
    exact ⟨retLim_false, HB.out _⟩
  have F4 : Hid _ := hx4 rfl
  clear hx4
  cases g6 : (FloatKind.f64.format.order dc 4607182418800017408 == some .gt || FloatKind.f64.format.order dc 4607182418800017408 == some .eq) with
  | false =>
    go_wp2_with fail
    go_ret
    exact ⟨retLim_false, HB.out _⟩
  | true =>
  by_cases hp : 0 < per
  case neg =>
    have kp : decide (0 < per) = false := decide_eq_false hp
    go_wp2_with fail
    go_ret
    exact ⟨retLim_false, HB.out _⟩
  have kp : decide (0 < per) = true := decide_eq_true hp
  have HL : Hid (LimOK burst mn mx it per) := by
    have m1 := fin_lt mn P1.out.2 F1.out
    obtain ⟨a1, a2⟩ := ge_pos mx mn h2 P1.out.1 m1 g2
    have m2 := fin_lt mx a2 F2.out
    obtain ⟨a3, a4⟩ := ge_pos it mn h3 P1.out.1 m1 g3
    refine ⟨by omega, by omega, P1.out.1, by omega, a1, a3, ?_, hp⟩
    have g4' : (double.order it mx == some .lt || double.order it mx == some .eq) = true := g4
    rw [order_pos it mx a4 (by omega)] at g4'
    apply Nat.le_of_not_lt
    intro hlt
    rw [Nat.compare_eq_gt.2 hlt] at g4'
    exact absurd g4' (by decide)
  go_wp2_with fail
  go_ret
  exact ⟨⟨true, rfl, fun _ => HL.out⟩, HB.out _⟩

end Go.Proofs.Qxb6616096aDoor
