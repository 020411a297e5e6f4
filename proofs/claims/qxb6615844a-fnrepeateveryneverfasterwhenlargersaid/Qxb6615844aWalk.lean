import Derived.Test.Qxb6615844aRows
import Derived.Test.Qxb6615844aLaw
import Derived.WalkKit
import Derived.WalkSpells
import Derived.WalkLawsBesides
import Derived.Deep.QuietTactic
import Derived.BigQuiet
namespace Go.Proofs.Qxb6615844a
open Go.RowKit

theorem ret_int {k : IntKind} {a b : Int} (h : a = b) : Ending.returned (.int k a) = .returned (.int k b) := by rw [h]

set_option maxHeartbeats 400000 in
theorem zz_any (d x : Nat) (n b t : Int) (w : World) (hb0 : 0 ≤ b) (hb1 : b ≤ 9223372036854775807)
    (hm : floatBits .mul .f64 d (floatOfInt .f64 n) = some x) (ht : floatToIntVal .f64 x .i64 = some t) :
    Calls Try.prog 4 #[.float .f64 d, .int .i64 n, .int .i64 b] w fun e w' => e = .returned (.int .i64 (max t (b / 4))) ∧ Below w.heap.size w w' := by
  have hmul := fun w => run_float_arith (P := Try.prog) w .mul 22 .f64 d (floatOfInt .f64 n) x hm
  have hcv := fun w => run_convert_float_int (P := Try.prog) w 22 36 .f64 .i64 x t (by rw [Try.underlying22]; rfl) Try.underlying36 ht
  clear hm ht
  go_enter Try.func4, Try.ntmps4
  go_wp2
  go_quiet (fail)
  go_wp2
  all_goals
    go_ret
    refine ⟨ret_int (by omega), ?_⟩
    refine below_drewN ?_ _
    exact (((Below.refl _ _).alloc (Nat.le_refl _) _).alloc (by simp) _).alloc (by simp; omega) _

end Go.Proofs.Qxb6615844a
