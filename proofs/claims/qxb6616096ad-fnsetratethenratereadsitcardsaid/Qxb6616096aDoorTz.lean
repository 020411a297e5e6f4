import Derived.Test.Qxb6616096aDoorLib2
import Derived.Shelf.Spec.TrailingZeros
namespace Go.Proofs.Qxb6616096aDoor
open Go.RowKit
set_option linter.unusedVariables false
set_option linter.unusedSimpArgs false
set_option maxRecDepth 100000

set_option maxHeartbeats 1000000 in
theorem tz_core (x k idx : Nat) (w : World) (hx0 : ((x : Int) == 0) = false)
    (key : IntKind.u64.wrap (bits BinOp.and IntKind.u64 (x : Int) (IntKind.u64.wrap (-(x : Int))) * 285870213051353865) / 288230376151711744 = (idx : Int))
    (hi : idx < 64) (hk : k < 64) (hcell : w.cell? ⟨1, idx, none⟩ = some (.int .u8 k)) :
    Calls Tryd.prog 32 #[.int .u64 x] w fun e w' => e = .returned (.int .i64 k) ∧ w = w' := by
  go_enter Tryd.func32, Tryd.ntmps32
  go_wp2_with (simp only [key])
  go_ret
  exact ⟨rfl, rfl⟩

theorem tz_c (x : Nat) (hx : x < 18446744073709551616) (hx0 : x ≠ 0) (w : World) (hT : TabAt 1 Lib.deBruijn64tab w) :
    Calls Tryd.prog 32 #[.int .u64 x] w fun e w' => e = .returned (.int .i64 (Lib.ctz 64 x)) ∧ w = w' := by
  obtain ⟨hlow, hk⟩ := Lib.lowest_bit 64 x hx0 hx
  obtain ⟨hi, htab⟩ := Lib.deBruijn64_at _ hk
  have hcell := hT _ hi
  rw [htab] at hcell
  exact tz_core x _ _ w (by simp; omega) (tz64_key x _ hx hx0 hlow) hi hk hcell

/-- What 'ctz' says. -/
theorem ctz_spec (x : Nat) (h0 : 0 < x) (hx : x < 2 ^ 64) : ∃ m, x = (2 * m + 1) * 2 ^ (Lib.ctz 64 x) ∧ Lib.ctz 64 x < 64 := by
  unfold Lib.ctz
  rw [if_neg (by omega)]
  obtain ⟨m, h1, h2⟩ := Lib.ctzFrom_spec 64 x h0 hx
  refine ⟨m, ?_, h2⟩
  rw [Nat.mul_comm]
  exact h1

end Go.Proofs.Qxb6616096aDoor
