import Derived.Test.Qxb6616096aDoorLimIs
namespace Go.Proofs.Qxb6616096aDoor
open Go.RowKit
set_option linter.unusedVariables false
set_option linter.unusedSimpArgs false
set_option maxRecDepth 100000
open Pl Flt Ieee

set_option maxHeartbeats 8000000 in
theorem limitIs_w (t : Nat) (burst per m o x D F e f P s dh dl F1 b : Int) (ok : Bool)
    (c26 : Hid (∀ w, Calls Tryd.prog 26 #[.float .f64 t] w fun e' w' => e' = .returned (.tuple #[.int .u64 m, .int .i64 e]) ∧ w = w'))
    (hP : IntKind.u64.wrap per = P) (c27 : Hid (∀ w, Calls Tryd.prog 27 #[.int .u64 P] w fun e' w' => e' = .returned (.tuple #[.int .u64 o, .int .i64 f]) ∧ w = w'))
    (hx : IntKind.i64.wrap (e - f) = x)
    (hS : (decide (e < f) = true ∧ IntKind.i64.wrap (f - e) = s) ∨ (decide (e < f) = false ∧ s = 0))
    (c28 : Hid (ShlC 0 o s dh dl ok))
    (hD : (ok = true ∧ dh = 0 ∧ dl = D) ∨ (ok = true ∧ (dh == 0) = false ∧ D = 0) ∨ (ok = false ∧ D = 0))
    (hF0 : (F == 0) = false) (hF1 : IntKind.u64.wrap (F - 1) = F1) (hb : IntKind.u64.wrap burst = b)
    (c29 : Hid (∀ w, Calls Tryd.prog 29 #[.int .u64 F1, .int .u64 m, .int .i64 e, .int .u64 b, .int .u64 o, .int .i64 f] w fun e' w' => e' = .returned (.bool false) ∧ w = w'))
    (hM : (F == 18446744073709551615) = true ∨ ((F == 18446744073709551615) = false ∧ Hid (∀ w, Calls Tryd.prog 29 #[.int .u64 F, .int .u64 m, .int .i64 e, .int .u64 b, .int .u64 o, .int .i64 f] w fun e' w' => e' = .returned (.bool true) ∧ w = w'))) (w : World) :
    Calls Tryd.prog 17 #[.int .i64 burst, .float .f64 t, .int .i64 per, .int .u64 m, .int .u64 o, .int .i64 x, .int .u64 D, .int .u64 F] w fun e' w' => e' = .returned (.bool true) ∧ w = w' := by
  rcases hS with ⟨kS, hS⟩ | ⟨kS, rfl⟩ <;> rcases hD with ⟨rfl, rfl, rfl⟩ | ⟨rfl, kD, rfl⟩ | ⟨rfl, rfl⟩ <;> rcases hM with kM | ⟨kM, c29b⟩
  all_goals
    go_enter Tryd.func17, Tryd.ntmps17
    go_wp2_with fail
    refine (c26.out _).mono ?_
    rintro e w1 ⟨rfl, rfl⟩
    go_wp2_with fail
    refine (c27.out _).mono ?_
    rintro e w1 ⟨rfl, rfl⟩
    go_wp2_with fail
    refine (c28.out _).mono ?_
    rintro e w1 ⟨rfl, rfl⟩
    go_wp2_with fail
    refine (c29.out _).mono ?_
    rintro e w1 ⟨rfl, rfl⟩
    go_wp2_with fail
    first
      | (go_ret; exact ⟨rfl, rfl⟩)
      | (refine (c29b.out _).mono ?_
         rintro e w1 ⟨rfl, rfl⟩
         go_wp2_with fail
         go_ret
         exact ⟨rfl, rfl⟩)

end Go.Proofs.Qxb6616096aDoor
