import Derived.Test.Qxb6616096aDoorRateOf
namespace Go.Proofs.Qxb6616096aDoor
open Go.RowKit
set_option linter.unusedVariables false
set_option linter.unusedSimpArgs false
set_option maxRecDepth 100000
open Pl

set_option maxHeartbeats 1000000 in
theorem zzrate_c (A S : Addr) (i : Int) (v : Nat) (w : World) (c25 : Hid (Calls Tryd.prog 25 #[.pointer (some A), .pointer (some S), .int .i64 i] w fun e w' => e = .returned (.float .f64 v) ∧ w = w')) :
    Calls Tryd.prog 12 #[.pointer (some A), .pointer (some S), .int .i64 i] w fun e w' => e = .returned (.float .f64 v) ∧ w = w' := by
  go_enter Tryd.func12, Tryd.ntmps12
  go_wp2_with fail
  refine c25.out.mono ?_
  rintro e w1 ⟨rfl, rfl⟩
  go_wp2_with fail
  go_ret
  exact ⟨rfl, rfl⟩

set_option maxHeartbeats 1000000 in
theorem zzbucket_c (S BB n i : Nat) (T P L : Int) (w : World) (hi : i < n) (hn : n ≤ 65536) (h4 : w.cell? ⟨S, 4, Option.none⟩ = some (.slice (some ⟨BB, 0, Option.none⟩) n n))
    (b0 : w.cell? ⟨BB, i * 3, Option.none⟩ = some (.int .i64 T)) (b1 : w.cell? ⟨BB, i * 3 + 1, Option.none⟩ = some (.int .u64 P)) (b2 : w.cell? ⟨BB, i * 3 + 2, Option.none⟩ = some (.int .i64 L)) :
    Calls Tryd.prog 13 #[.pointer (some ⟨S, 0, Option.none⟩), .int .i64 (i : Int)] w fun e w' => e = .returned (.tuple #[.int .i64 T, .int .u64 P, .int .i64 L]) ∧ Below w.heap.size w w' := by
  have i1 : (i : Int) < (n : Int) := by omega
  have i2 : (0 : Int) ≤ (i : Int) := by omega
  go_enter Tryd.func13, Tryd.ntmps13
  go_wp2_with fail
  go_quiet (fail)
  go_wp2_with fail
  simp [bodyPost, results, Tryd.results13, go_sem]
  exact below_drewN ((Below.refl _ _).alloc (Nat.le_refl _) _) _

set_option maxHeartbeats 1000000 in
theorem limit_c (burst per : Int) (a b c d e : Nat) (t : Nat) (w : World) :
    Calls Tryd.prog 21 #[.agg #[.int .i64 burst, .float .f64 a, .float .f64 b, .float .f64 c, .float .f64 d, .float .f64 e, .int .i64 per], .float .f64 t] w fun e w' => e = .returned (.agg #[.int .i64 burst, .float .f64 t, .int .i64 per]) ∧ Below w.heap.size w w' := by
  have sf := fun (w : World) (p : Addr) (m : Mode) => run_store Tryd.prog w p (.float .f64 t) m rfl
  go_enter Tryd.func21, Tryd.ntmps21
  go_wp2_with fail
  simp [bodyPost, results, Tryd.results21, go_sem]
  exact ((Below.refl _ _).alloc (Nat.le_refl _) _).alloc (by simp) _

end Go.Proofs.Qxb6616096aDoor
