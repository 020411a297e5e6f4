import Derived.Test.Qxb6616096aDoorLib
import Derived.Below
namespace Go.Proofs.Qxb6616096aDoor
open Go.RowKit
open Ieee Flt
set_option linter.unusedVariables false
set_option linter.unusedSimpArgs false
set_option maxRecDepth 100000

theorem ret_fi {a : Nat} {x y : Int} (h : x = y) : Ending.returned (.tuple #[.float .f64 a, .int .i64 x]) = .returned (.tuple #[.float .f64 a, .int .i64 y]) := by rw [h]

theorem order_eq0 (x : Nat) (h0 : 0 < x) (hx : x ≤ 9218868437227405312) : (FloatKind.f64.format.order x 0 == some .eq) = false := by
  rw [order_f x 0 hx (by omega), Nat.compare_eq_gt.2 h0]; rfl

set_option maxHeartbeats 2000000 in
/-- math.frexp of a positive finite number. -/
theorem frexp_pos (x y E F : Nat) (d : Int) (h0 : 0 < x) (hx : x < 9218868437227405312) (hN : Norm x y d) (hM : x < 4503599627370496 → double.mul x 4841369599423283200 = some y)
    (hE : y = E * 4503599627370496 + F) (hE1 : 1 ≤ E) (hE2 : E < 2047) (hF : F < 4503599627370496) (hd : -52 ≤ d) (hd0 : d ≤ 0) (w : World) :
    Calls Tryd.prog 40 #[.float .f64 x] w fun e w' => e = .returned (.tuple #[.float .f64 (1022 * 4503599627370496 + F), .int .i64 (d + (E : Int) - 1022)]) ∧ w = w' := by
  have c1 := isInf_fin x hx
  have c2 := isNaN_fin x hx
  have c3 := normalize_pos x y d h0 hx hN hM
  have k0 := order_eq0 x h0 (by omega)
  clear hN hM
  have r1 := bits55 y
  have k1 : (y : Int) / 4503599627370496 = (E : Int) := by omega
  have k2 := and2047 E (by omega)
  have k3 : bits .andNot .u64 (y : Int) 9218868437227405312 = (F : Int) := by rw [hE]; exact andNot_exp E F (by omega) hF
  have k4 : bits .or .u64 (F : Int) 4602678819172646912 = ((1022 * 4503599627370496 + F : Nat) : Int) := or_exp 1022 F (by omega) hF
  obtain ⟨fr, hfr⟩ : ∃ fr, fr = 1022 * 4503599627370496 + F := ⟨_, rfl⟩
  rw [← hfr] at k4 ⊢
  have r2 := from56 (fr : Int)
  rw [Int.toNat_natCast] at r2
  have hy : (y : Int) ≤ 9223372036854775807 := by omega
  have hy0 : (0 : Int) ≤ y := by omega
  clear hfr hE
  have H1 : Hid (∀ w, Calls Tryd.prog 52 #[.float .f64 x, .int .i64 0] w fun e w' => e = .returned (.bool false) ∧ w = w') := c1
  have H2 : Hid (∀ w, Calls Tryd.prog 53 #[.float .f64 x] w fun e w' => e = .returned (.bool false) ∧ w = w') := c2
  have H3 : Hid (∀ w, Calls Tryd.prog 54 #[.float .f64 x] w fun e w' => e = .returned (.tuple #[.float .f64 y, .int .i64 d]) ∧ w = w') := c3
  clear c1 c2 c3
  go_enter Tryd.func40, Tryd.ntmps40
  go_wp2_with fail
  refine (H1.out _).mono ?_
  rintro e w1 ⟨rfl, rfl⟩
  go_wp2_with fail
  refine (H2.out _).mono ?_
  rintro e w1 ⟨rfl, rfl⟩
  go_wp2_with fail
  refine (H3.out _).mono ?_
  rintro e w1 ⟨rfl, rfl⟩
  go_wp2_with (first | simp only [r1] | simp only [k1, k2, k3, k4, r2])
  go_ret2
  refine ⟨?_, rfl⟩
  exact ret_fi (show d + ((E : Int) - 1023 + 1) = d + (E : Int) - 1022 by omega)

set_option maxHeartbeats 2000000 in
theorem Frexp_pos (x y E F : Nat) (d : Int) (h0 : 0 < x) (hx : x < 9218868437227405312) (hN : Norm x y d) (hM : x < 4503599627370496 → double.mul x 4841369599423283200 = some y)
    (hE : y = E * 4503599627370496 + F) (hE1 : 1 ≤ E) (hE2 : E < 2047) (hF : F < 4503599627370496) (hd : -52 ≤ d) (hd0 : d ≤ 0) (w : World) :
    Calls Tryd.prog 30 #[.float .f64 x] w fun e w' => e = .returned (.tuple #[.float .f64 (1022 * 4503599627370496 + F), .int .i64 (d + (E : Int) - 1022)]) ∧ w = w' := by
  have c1 := frexp_pos x y E F d h0 hx hN hM hE hE1 hE2 hF hd hd0
  clear hN hM hE
  generalize 1022 * 4503599627370496 + F = fr at *
  generalize d + (E : Int) - 1022 = ep at *
  go_enter Tryd.func30, Tryd.ntmps30
  go_wp2_with fail
  refine (c1 _).mono ?_
  rintro e w1 ⟨rfl, rfl⟩
  go_wp2_with fail
  go_ret2
  exact ⟨rfl, rfl⟩

theorem and2047_i (E : Nat) (hE : E < 2048) : bits .and .i64 (E : Int) 2047 = (E : Int) := by
  have h127 : (BitVec.ofInt 64 2047).toNat = 2 ^ 11 - 1 := by decide
  have key : (BitVec.ofInt 64 (E : Int) &&& BitVec.ofInt 64 2047).toNat = ((E : Int) % ((2 ^ 64 : Nat) : Int)).toNat % 2 ^ 11 := by
    rw [BitVec.toNat_and, BitVec.toNat_ofInt, h127, Nat.and_two_pow_sub_one_eq_mod]
  show IntKind.i64.wrap ((BitVec.ofInt 64 (E : Int) &&& BitVec.ofInt 64 2047).toNat : Nat) = _
  rw [key, IntKind.wrap_i64]
  omega

set_option maxHeartbeats 2000000 in
/-- math.ldexp of a fraction from 1/2 up to 1, by 53. -/
theorem ldexp_53 (F : Nat) (hF : F < 4503599627370496) (w : World) :
    Calls Tryd.prog 42 #[.float .f64 (1022 * 4503599627370496 + F), .int .i64 53] w fun e w' => e = .returned (.float .f64 (1075 * 4503599627370496 + F)) ∧ w = w' := by
  obtain ⟨fr, hfr⟩ : ∃ fr, fr = 1022 * 4503599627370496 + F := ⟨_, rfl⟩
  obtain ⟨r, hr⟩ : ∃ r, r = 1075 * 4503599627370496 + F := ⟨_, rfl⟩
  rw [← hfr, ← hr]
  have c1 := isInf_fin fr (by omega)
  have c2 := isNaN_fin fr (by omega)
  have c3 := normalize_pos fr fr 0 (by omega) (by omega) (.inl ⟨by omega, rfl, rfl⟩) (fun h => absurd h (by omega))
  have k0 := order_eq0 fr (by omega) (by omega)
  have r1 := bits55 fr
  have k1 : (fr : Int) / 4503599627370496 = 1022 := by omega
  have k2 : bits .and .i64 1022 2047 = 1022 := and2047_i 1022 (by omega)
  have k3 : bits .andNot .u64 (fr : Int) 9218868437227405312 = (F : Int) := by rw [hfr]; exact andNot_exp 1022 F (by omega) hF
  have k4 : bits .or .u64 (F : Int) 4841369599423283200 = (r : Int) := by rw [hr]; exact or_exp 1075 F (by omega) hF
  have r2 := from56 (r : Int)
  rw [Int.toNat_natCast] at r2
  have hm := fun w => run_float_arith (P := Tryd.prog) w .mul 22 .f64 4607182418800017408 r r (one_mul r (by omega) (by omega))
  clear hfr hr
  have H1 : Hid (∀ w, Calls Tryd.prog 52 #[.float .f64 fr, .int .i64 0] w fun e w' => e = .returned (.bool false) ∧ w = w') := c1
  have H2 : Hid (∀ w, Calls Tryd.prog 53 #[.float .f64 fr] w fun e w' => e = .returned (.bool false) ∧ w = w') := c2
  have H3 : Hid (∀ w, Calls Tryd.prog 54 #[.float .f64 fr] w fun e w' => e = .returned (.tuple #[.float .f64 fr, .int .i64 0]) ∧ w = w') := c3
  clear c1 c2 c3
  go_enter Tryd.func42, Tryd.ntmps42
  go_wp2_with fail
  refine (H1.out _).mono ?_
  rintro e w1 ⟨rfl, rfl⟩
  go_wp2_with fail
  refine (H2.out _).mono ?_
  rintro e w1 ⟨rfl, rfl⟩
  go_wp2_with fail
  refine (H3.out _).mono ?_
  rintro e w1 ⟨rfl, rfl⟩
  go_wp2_with (first | simp only [r1] | simp only [k1, k2, k3, k4, r2])
  go_ret
  exact ⟨rfl, rfl⟩

set_option maxHeartbeats 2000000 in
theorem Ldexp_53 (F : Nat) (hF : F < 4503599627370496) (w : World) :
    Calls Tryd.prog 31 #[.float .f64 (1022 * 4503599627370496 + F), .int .i64 53] w fun e w' => e = .returned (.float .f64 (1075 * 4503599627370496 + F)) ∧ w = w' := by
  have c1 := ldexp_53 F hF
  generalize 1022 * 4503599627370496 + F = fr at *
  generalize 1075 * 4503599627370496 + F = r at *
  go_enter Tryd.func31, Tryd.ntmps31
  go_wp2_with fail
  refine (c1 _).mono ?_
  rintro e w1 ⟨rfl, rfl⟩
  go_wp2_with fail
  go_ret
  exact ⟨rfl, rfl⟩

theorem toInt_53 (F : Nat) (hF : F < 4503599627370496) : floatToIntVal .f64 (1075 * 4503599627370496 + F) .u64 = some ((4503599627370496 + F : Nat) : Int) := by
  have h := toInt_fin (1075 * 4503599627370496 + F) (by omega)
  have hV : V (1075 * 4503599627370496 + F) = (4503599627370496 + F) * U := by
    have h1 : ¬ (1075 * 4503599627370496 + F < 2 ^ 52) := by omega
    have h2 : (1075 * 4503599627370496 + F) % 2 ^ 52 = F := by omega
    have h3 : (1075 * 4503599627370496 + F) / 2 ^ 52 - 1 = 1074 := by omega
    unfold V mg ex
    rw [if_neg h1, h2, h3, pow_U 1074 rfl]
  rw [hV, Nat.mul_div_cancel _ U_pos] at h
  unfold floatToIntVal FloatKind.decode
  rw [show FloatKind.f64.format = double from rfl, h]
  have : IntKind.min .u64 ≤ ((4503599627370496 + F : Nat) : Int) ∧ ((4503599627370496 + F : Nat) : Int) ≤ IntKind.max .u64 := by
    rw [show IntKind.min .u64 = 0 from rfl, show IntKind.max .u64 = 18446744073709551615 from rfl]
    omega
  generalize ((4503599627370496 + F : Nat) : Int) = q at *
  simp only [this, and_self, if_true]

end Go.Proofs.Qxb6616096aDoor
