import Derived.Test.Qxb6616096aDoorRefill
namespace Go.Proofs.Qxb6616096aDoor
open Go.RowKit
set_option linter.unusedVariables false
set_option linter.unusedSimpArgs false
set_option maxRecDepth 100000
open Pl

set_option maxHeartbeats 1000000 in
theorem rateOf_c (S KB KO RB n i : Nat) (p : Option Nat) (w : World) (hi : i < n) (hn : n ≤ 65536) (h6 : w.cell? ⟨S, 6, Option.none⟩ = some (.bool true)) (h5 : w.cell? ⟨S, 5, Option.none⟩ = some (.slice (some ⟨RB, 0, Option.none⟩) n n)) (hp : w.cell? ⟨RB, i, Option.none⟩ = some (ptr? p)) :
    Calls Tryd.prog 34 #[.pointer (some ⟨S, 2, Option.none⟩), .pointer (some ⟨KB, KO, Option.none⟩), .int .i64 (i : Int)] w fun e w' => e = .returned (.pointer (some (rateLies p KB KO))) ∧ w = w' := by
  have i1 : (i : Int) < (n : Int) := by omega
  have i2 : (0 : Int) ≤ (i : Int) := by omega
  cases p with
  | none =>
    simp only [ptr?] at hp
    go_enter Tryd.func34, Tryd.ntmps34
    go_wp2_with fail
    go_ret
    exact ⟨rfl, rfl⟩
  | some B =>
    simp only [ptr?] at hp
    go_enter Tryd.func34, Tryd.ntmps34
    go_wp2_with fail
    go_ret
    exact ⟨rfl, rfl⟩

set_option maxHeartbeats 1000000 in
/-- (*AdaptiveLimiter).rate of a key that is held. -/
theorem arate_c (A S RB n i : Nat) (p : Option Nat) (v init : Nat) (w : World) (hi : i < n) (hn : n ≤ 65536) (hI : w.cell? ⟨A, 4, Option.none⟩ = some (.float .f64 init)) (h5 : w.cell? ⟨S, 5, Option.none⟩ = some (.slice (some ⟨RB, 0, Option.none⟩) n n)) (hp : w.cell? ⟨RB, i, Option.none⟩ = some (ptr? p))
    (hv : (p = Option.none ∧ v = init) ∨ ∃ B, p = some B ∧ w.cell? ⟨B, 0, Option.none⟩ = some (.float .f64 v)) :
    Calls Tryd.prog 25 #[.pointer (some ⟨A, 0, Option.none⟩), .pointer (some ⟨S, 0, Option.none⟩), .int .i64 (i : Int)] w fun e w' => e = .returned (.float .f64 v) ∧ w = w' := by
  have i1 : (i : Int) < (n : Int) := by omega
  have i2 : (0 : Int) ≤ (i : Int) := by omega
  rcases hv with ⟨rfl, rfl⟩ | ⟨B, rfl, hB⟩
  · simp only [ptr?] at hp
    go_enter Tryd.func25, Tryd.ntmps25
    go_wp2_with fail
    go_ret
    exact ⟨rfl, rfl⟩
  · simp only [ptr?] at hp
    go_enter Tryd.func25, Tryd.ntmps25
    go_wp2_with fail
    go_ret
    exact ⟨rfl, rfl⟩

set_option maxHeartbeats 1000000 in
/-- .. and of a key that is not. -/
theorem arate_no (A S : Nat) (init : Nat) (w : World) (hI : w.cell? ⟨A, 4, Option.none⟩ = some (.float .f64 init)) :
    Calls Tryd.prog 25 #[.pointer (some ⟨A, 0, Option.none⟩), .pointer (some ⟨S, 0, Option.none⟩), .int .i64 (-1)] w fun e w' => e = .returned (.float .f64 init) ∧ w = w' := by
  go_enter Tryd.func25, Tryd.ntmps25
  go_wp2_with fail
  go_ret
  exact ⟨rfl, rfl⟩

end Go.Proofs.Qxb6616096aDoor
