import Derived.Test.Qxb6615850aSort10
namespace Go.Proofs.Qxb6615850a
open Go.RowKit
set_option linter.unusedVariables false

set_option maxHeartbeats 1000000 in
/-- slices.SortFunc: the row holds a permutation of what it held. -/
theorem sortFunc (g E cap : Nat) (rv : Value) (ok : Int → Prop) (Env : World → Prop) (C : Cmp g E rv ok Env) (d : List Int) (W : World) (hr : Rowz W g d) (he : Env W) (hN : d.length ≤ 1000000) (hd : ∀ z ∈ d, ok z) :
    Calls Try.prog 26 #[.slice (some ⟨g, 0, Option.none⟩) d.length cap, .func (.func 27) #[rv] #[]] W fun e w' => e = .returned (.tuple #[]) ∧ ∃ d', Perms g Env W d w' d' := by
  have hP : Some_ g Env W d W := ⟨d, .start hr he⟩
  have hlen := Any.bits_Len Try.lays125 (d.length : Int) W (by omega) (by omega)
  rw [Int.toNat_natCast] at hlen
  have hlim : Lib.bitLen d.length ≤ 62 := Lib.bitLen_le d.length 62 (by omega) (by omega)
  have hpd := pdq g E cap rv ok Env C d.length 0 d.length (Lib.bitLen d.length) d W W (by omega) (by omega) (Nat.le_refl _) hN (by omega) (by omega) hd hP
  generalize Lib.bitLen d.length = L at *
  have HL : Hid (Calls Try.prog 33 #[.int .u64 (d.length : Int)] W fun e w' => e = .returned (.int .i64 (L : Int)) ∧ w' = W) := hlen
  have HS : Hid (Calls Try.prog 32 #[.slice (some ⟨g, 0, Option.none⟩) d.length cap, .int .i64 0, .int .i64 d.length, .int .i64 L, .func (.func 27) #[rv] #[]] W fun e w' => e = .returned (.tuple #[]) ∧ Some_ g Env W d w') := hpd
  clear hlen hpd hP hr he hd
  go_enter Try.func26, Try.ntmps26
  go_wp2_with fail
  refine HL.out.mono ?_
  rintro e w1 ⟨rfl, rfl⟩
  go_wp2_with fail
  refine HS.out.mono ?_
  rintro e w2 ⟨rfl, h2⟩
  go_wp2_with fail
  go_end0
  exact ⟨rfl, h2⟩

set_option maxHeartbeats 1000000 in
theorem insertionNil (fv : Value) (W : World) : Calls Try.prog 34 #[.slice Option.none 0 0, .int .i64 0, .int .i64 0, fv] W fun e w' => e = .returned (.tuple #[]) ∧ w' = W := by
  go_enter Try.func34, Try.ntmps34
  go_wp2_with fail
  refine wp_loop_rounds 1 ?_
  rw [rounds_succ]
  go_wp2_with fail
  go_end0
  exact ⟨rfl, rfl⟩

set_option maxHeartbeats 1000000 in
theorem pdqNil (L : Int) (fv : Value) (W : World) : Calls Try.prog 32 #[.slice Option.none 0 0, .int .i64 0, .int .i64 0, .int .i64 L, fv] W fun e w' => e = .returned (.tuple #[]) ∧ w' = W := by
  go_enter Try.func32, Try.ntmps32
  go_wp2_with fail
  refine wp_loop_rounds 1 ?_
  rw [rounds_succ]
  go_wp2_with fail
  refine (insertionNil fv _).mono ?_
  rintro e w1 ⟨rfl, rfl⟩
  go_wp2_with fail
  refine bodyPost_ret (results_none rfl _ _ _) rfl ?_
  exact ⟨rfl, rfl⟩

set_option maxHeartbeats 1000000 in
theorem sortNil (fv : Value) (W : World) : Calls Try.prog 26 #[.slice Option.none 0 0, fv] W fun e w' => e = .returned (.tuple #[]) ∧ w' = W := by
  have hlen := Any.bits_Len Try.lays125 0 W (by omega) (by omega)
  generalize Lib.bitLen (0 : Int).toNat = L at *
  have HL : Hid (Calls Try.prog 33 #[.int .u64 0] W fun e w' => e = .returned (.int .i64 (L : Int)) ∧ w' = W) := hlen
  clear hlen
  go_enter Try.func26, Try.ntmps26
  go_wp2_with fail
  refine HL.out.mono ?_
  rintro e w1 ⟨rfl, rfl⟩
  go_wp2_with fail
  refine (pdqNil _ _ _).mono ?_
  rintro e w2 ⟨rfl, rfl⟩
  go_wp2_with fail
  go_end0
  exact ⟨rfl, rfl⟩

end Go.Proofs.Qxb6615850a
