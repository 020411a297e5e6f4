import Derived.Test.Qxb6616096aDoorRows
import Derived.Test.Qxb6616096aDoorFloat2
import Derived.WalkKit
import Derived.WalkSpells
import Derived.WalkLawsBesides
import Derived.Laws.Bits64b
import Derived.Laws.Externs
namespace Go.Proofs.Qxb6616096aDoor
open Go.RowKit
open Ieee Flt
set_option linter.unusedVariables false
set_option linter.unusedSimpArgs false
set_option maxRecDepth 100000

theorem bits55 (x : Nat) (w : World) : (callFunc 55 #[.float .f64 x]).run Tryd.prog w = .ok (.value (.int .u64 (x : Int))) w := by
  rw [run_callFunc_extern Tryd.func55 (by kernel_rfl) (by kernel_rfl) (by kernel_rfl) (e := Extern.MathFloatBits.float64bits) (by kernel_rfl)]
  rfl
theorem from56 (n : Int) (w : World) : (callFunc 56 #[.int .u64 n]).run Tryd.prog w = .ok (.value (.float .f64 n.toNat)) w := by
  rw [run_callFunc_extern Tryd.func56 (by kernel_rfl) (by kernel_rfl) (by kernel_rfl) (e := Extern.MathFloatBits.float64frombits) (by kernel_rfl)]
  rfl
theorem add47 (x y c : Int) (hx : 0 ≤ x) (hy : 0 ≤ y) (hc0 : 0 ≤ c) (hc : c ≤ 1) (w : World) : (callFunc 47 #[.int .u64 x, .int .u64 y, .int .u64 c]).run Tryd.prog w =
    .ok (.value (.tuple #[.int .u64 ((x + y + c) % 18446744073709551616), .int .u64 ((x + y + c) / 18446744073709551616)])) w := by
  rw [run_callFunc_extern Tryd.func47 (by kernel_rfl) (by kernel_rfl) (by kernel_rfl) (e := add64Entry) (by kernel_rfl), run_add64 x y c hx hy hc0 hc]
  rfl

/-- 'x &^ m' of words. -/
theorem andNot_sign (x : Nat) (hx : x < 9223372036854775808) : bits .andNot .u64 (x : Int) 9223372036854775808 = (x : Int) := by
  have h1 : BitVec.ofInt 64 (x : Int) = BitVec.ofNat 64 x := BitVec.ofInt_natCast ..
  show IntKind.u64.wrap (((BitVec.ofInt 64 (x : Int)) &&& ~~~ (BitVec.ofInt 64 9223372036854775808)).toNat : Int) = _
  rw [show ~~~ (BitVec.ofInt 64 9223372036854775808) = BitVec.ofNat 64 (2 ^ 63 - 1) from by decide, h1, BitVec.toNat_and, BitVec.toNat_ofNat, BitVec.toNat_ofNat,
    show (2 ^ 63 - 1) % 2 ^ 64 = 2 ^ 63 - 1 from rfl, Nat.and_two_pow_sub_one_eq_mod, IntKind.wrap_u64]
  omega

set_option maxHeartbeats 1000000 in
theorem abs_pos (x : Nat) (hx : x < 9223372036854775808) (w : World) :
    Calls Tryd.prog 66 #[.float .f64 x] w fun e w' => e = .returned (.float .f64 x) ∧ w = w' := by
  have k1 := andNot_sign x hx
  have k2 : ((x : Int)).toNat = x := Int.toNat_natCast x
  have r1 := bits55 x
  have r2 := from56 (x : Int)
  rw [k2] at r2
  go_enter Tryd.func66, Tryd.ntmps66
  go_wp2_with (first | simp only [r1] | simp only [k1, r2])
  go_ret
  exact ⟨rfl, rfl⟩

/-! ### The words of a normal number -/
theorem shr52 (E F : Nat) (hF : F < 4503599627370496) : ((E * 4503599627370496 + F : Nat) : Int) / 4503599627370496 = (E : Int) := by omega

theorem and2047 (E : Nat) (hE : E < 2048) : bits .and .u64 (E : Int) 2047 = (E : Int) := by
  have h := bits_and_u64_nat E 2047 (by omega) (by omega)
  have e : E &&& 2047 = E % 2048 := Nat.and_two_pow_sub_one_eq_mod E 11
  rw [e, Nat.mod_eq_of_lt hE] at h
  exact h

theorem andNot_exp (E F : Nat) (hE : E < 2048) (hF : F < 4503599627370496) : bits .andNot .u64 ((E * 4503599627370496 + F : Nat) : Int) 9218868437227405312 = (F : Int) := by
  have h1 : BitVec.ofInt 64 ((E * 4503599627370496 + F : Nat) : Int) = BitVec.ofNat 64 (E * 4503599627370496 + F) := BitVec.ofInt_natCast ..
  show IntKind.u64.wrap (((BitVec.ofInt 64 ((E * 4503599627370496 + F : Nat) : Int)) &&& ~~~ (BitVec.ofInt 64 9218868437227405312)).toNat : Int) = _
  have e : (E * 4503599627370496 + F) &&& (2 ^ 63 + (2 ^ 52 - 1)) = F := by
    apply Nat.eq_of_testBit_eq
    intro i
    rw [Nat.testBit_and, show E * 4503599627370496 + F = 2 ^ 52 * E + F from by omega, Nat.testBit_two_pow_mul_add _ hF,
      show 2 ^ 63 + (2 ^ 52 - 1) = 2 ^ 52 * 2 ^ 11 + (2 ^ 52 - 1) from by decide, Nat.testBit_two_pow_mul_add _ (by decide)]
    by_cases hi : i < 52
    · rw [if_pos hi, if_pos hi, Nat.testBit_two_pow_sub_one]
      simp [hi]
    · rw [if_neg hi, if_neg hi, Nat.testBit_two_pow]
      have hpi : 2 ^ 52 ≤ 2 ^ i := Nat.pow_le_pow_right (by decide) (by omega)
      have hFi : F.testBit i = false := Nat.testBit_lt_two_pow (Nat.lt_of_lt_of_le (show F < 2 ^ 52 from hF) hpi)
      rw [hFi]
      by_cases h11 : 11 = i - 52
      · rw [← h11, Nat.testBit_lt_two_pow (show E < 2 ^ 11 by omega)]; rfl
      · simp [h11]
  rw [show ~~~ (BitVec.ofInt 64 9218868437227405312) = BitVec.ofNat 64 (2 ^ 63 + (2 ^ 52 - 1)) from by decide, h1, BitVec.toNat_and, BitVec.toNat_ofNat, BitVec.toNat_ofNat,
    show (2 ^ 63 + (2 ^ 52 - 1)) % 2 ^ 64 = 2 ^ 63 + (2 ^ 52 - 1) from by decide, Nat.mod_eq_of_lt (by omega), e, IntKind.wrap_u64]
  omega

theorem or_exp (E F : Nat) (hE : E < 2048) (hF : F < 4503599627370496) : bits .or .u64 (F : Int) ((E * 4503599627370496 : Nat) : Int) = ((E * 4503599627370496 + F : Nat) : Int) := by
  have h := bits_or_u64_nat F (E * 4503599627370496) (by omega) (by omega)
  have e : F ||| (E * 4503599627370496) = E * 4503599627370496 + F := by
    rw [Nat.or_comm, show E * 4503599627370496 = 2 ^ 52 * E from by omega]
    exact (Nat.two_pow_add_eq_or_of_lt hF E).symm
  rw [e] at h
  exact h

theorem order_f (x y : Nat) (hx : x ≤ 9218868437227405312) (hy : y ≤ 9218868437227405312) : FloatKind.f64.format.order x y = some (compare x y) := order_pos x y (by omega) (by omega)

set_option maxHeartbeats 1000000 in
theorem isInf_fin (x : Nat) (hx : x < 9218868437227405312) (w : World) :
    Calls Tryd.prog 52 #[.float .f64 x, .int .i64 0] w fun e w' => e = .returned (.bool false) ∧ w = w' := by
  have hA := abs_pos x (by omega)
  have k1 : (FloatKind.f64.format.order x 9218868437227405311 == some .gt) = false := by
    rw [order_f _ _ (by omega) (by omega)]
    rcases Nat.lt_or_eq_of_le (show x ≤ 9218868437227405311 by omega) with h | h
    · rw [Nat.compare_eq_lt.2 h]; rfl
    · rw [h, Nat.compare_eq_eq.2 rfl]; rfl
  go_enter Tryd.func52, Tryd.ntmps52
  go_wp2_with fail
  refine (hA _).mono ?_
  rintro e w1 ⟨rfl, rfl⟩
  go_wp2_with fail
  go_ret
  exact ⟨rfl, rfl⟩

set_option maxHeartbeats 1000000 in
theorem isNaN_fin (x : Nat) (hx : x < 9218868437227405312) (w : World) :
    Calls Tryd.prog 53 #[.float .f64 x] w fun e w' => e = .returned (.bool false) ∧ w = w' := by
  have k1 : FloatKind.f64.format.order x x = some .eq := by
    rw [order_f _ _ (by omega) (by omega), Nat.compare_eq_eq.2 rfl]
  go_enter Tryd.func53, Tryd.ntmps53
  go_wp2_with fail
  go_ret
  exact ⟨rfl, rfl⟩

/-- What math.normalize answers of a positive finite number. -/
def Norm (x y : Nat) (d : Int) : Prop :=
  (4503599627370496 ≤ x ∧ y = x ∧ d = 0) ∨ (x < 4503599627370496 ∧ V y = V x * 2 ^ 52 ∧ d = -52 ∧ 4503599627370496 ≤ y ∧ y < 243194379878006784)

theorem norm_ex (x : Nat) (h0 : 0 < x) : ∃ y d, Norm x y d ∧ (x < 4503599627370496 → double.mul x 4841369599423283200 = some y) := by
  by_cases h : x < 4503599627370496
  · obtain ⟨y, h1, h2, h3, h4⟩ := mul_sub x (by omega) h0
    exact ⟨y, -52, .inr ⟨h, h2, rfl, by omega, by omega⟩, fun _ => h1⟩
  · exact ⟨x, 0, .inl ⟨by omega, rfl, rfl⟩, fun h' => absurd h' h⟩

set_option maxHeartbeats 1000000 in
theorem normalize_pos (x y : Nat) (d : Int) (h0 : 0 < x) (hx : x < 9218868437227405312) (hN : Norm x y d) (hM : x < 4503599627370496 → double.mul x 4841369599423283200 = some y) (w : World) :
    Calls Tryd.prog 54 #[.float .f64 x] w fun e w' => e = .returned (.tuple #[.float .f64 y, .int .i64 d]) ∧ w = w' := by
  have hA := abs_pos x (by omega)
  have ho := order_f x 4503599627370496 (by omega) (by omega)
  rcases hN with ⟨h1, rfl, rfl⟩ | ⟨h1, _, rfl, _, _⟩
  · have k1 : (FloatKind.f64.format.order y 4503599627370496 == some .lt) = false := by
      rw [ho]
      rcases Nat.lt_or_eq_of_le h1 with h | h
      · rw [Nat.compare_eq_gt.2 h]; rfl
      · rw [← h, Nat.compare_eq_eq.2 rfl]; rfl
    clear ho
    go_enter Tryd.func54, Tryd.ntmps54
    go_wp2_with fail
    refine (hA _).mono ?_
    rintro e w1 ⟨rfl, rfl⟩
    go_wp2_with fail
    go_ret2
    exact ⟨rfl, rfl⟩
  · have k1 : (FloatKind.f64.format.order x 4503599627370496 == some .lt) = true := by
      rw [ho, Nat.compare_eq_lt.2 h1]; rfl
    have hmul := fun w => run_float_arith (P := Tryd.prog) w .mul 22 .f64 x 4841369599423283200 y (hM h1)
    clear hM ho
    go_enter Tryd.func54, Tryd.ntmps54
    go_wp2_with fail
    refine (hA _).mono ?_
    rintro e w1 ⟨rfl, rfl⟩
    go_wp2_with fail
    go_ret2
    exact ⟨rfl, rfl⟩


end Go.Proofs.Qxb6616096aDoor
